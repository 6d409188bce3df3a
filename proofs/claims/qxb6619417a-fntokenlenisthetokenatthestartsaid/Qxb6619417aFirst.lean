/-
  THE PLAIN LAW: what tokenLen finds is the first later quote with an even run of backslashes ahead of it; and THE WALK of FnTokenLenIsTheTokenAtTheStart.
-/
import Derived.Test.Qxb6619417aWord
namespace Go.Proofs.Qxb6619417a
open Go.RowKit
set_option linter.unusedVariables false
set_option linter.unusedSimpArgs false
namespace First
open Word Tok

/-- A quote at p with an even run of backslashes before it. -/
def Hit (s : ByteArray) (q : UInt8) (p : Nat) : Prop := p < s.size ∧ s.data.toList[p]? = some q ∧ run s p % 2 = 0
/-- The answer R is the first hit from k on, or all of s. -/
def Fst (s : ByteArray) (q : UInt8) (R k : Nat) : Prop :=
  (∃ p, k ≤ p ∧ Hit s q p ∧ (∀ p', k ≤ p' → p' < p → ¬ Hit s q p') ∧ R = p + 1) ∨ ((∀ p', k ≤ p' → ¬ Hit s q p') ∧ R = s.size)

theorem fst_later {s : ByteArray} {q : UInt8} {R k k' : Nat} (hk : k ≤ k') (h : Fst s q R k') (hno : ∀ p', k ≤ p' → p' < k' → ¬ Hit s q p') : Fst s q R k := by
  rcases h with ⟨p, hp, hh, hn, e⟩ | ⟨hn, e⟩
  · refine Or.inl ⟨p, by omega, hh, fun p' h1 h2 => ?_, e⟩
    by_cases h3 : p' < k'
    · exact hno p' h1 h3
    · exact hn p' (by omega) h2
  · refine Or.inr ⟨fun p' h1 => ?_, e⟩
    by_cases h3 : p' < k'
    · exact hno p' h1 h3
    · exact hn p' (by omega)

theorem beq_of {a b : UInt8} (h : ((a.toNat : Int) == (b.toNat : Int)) = true) : a = b := by
  simp only [beq_iff_eq] at h; exact UInt8.toNat_inj.1 (Int.ofNat_inj.1 h)
theorem beq_no {a b : UInt8} (h : ((a.toNat : Int) == (b.toNat : Int)) = false) : a ≠ b := by
  intro e; subst e; simp at h

theorem run_two {s : ByteArray} {k : Nat} (hk : 1 ≤ k) (hlt : k < s.size) (he : run s k % 2 = 0) (hc : ((s[k].toNat : Int) == 92) = true) : run s (k + 2) % 2 = 0 := by
  have e := run_back hk hlt hc
  show run s (k + 1 + 1) % 2 = 0
  rw [run]
  split
  · omega
  · rfl

theorem fst_of (s : ByteArray) (q : UInt8) (R : Nat) (hq : q ≠ 92) : ∀ (n k : Nat), s.size + 1 - k ≤ n → 1 ≤ k → run s k % 2 = 0 → At s q R k → Fst s q R k := by
  intro n
  induction n with
  | zero =>
    intro k hn hk he hA
    exact Or.inr ⟨fun p' h1 h2 => by have := h2.1; omega, (at_end (by omega) hA).symm⟩
  | succ n ih =>
    intro k hn hk he hA
    by_cases hlt : k < s.size
    · cases hc : ((s[k].toNat : Int) == 92)
      · cases hcq : ((s[k].toNat : Int) == (q.toNat : Int))
        · refine fst_later (Nat.le_succ k) (ih (k + 1) (by omega) (by omega) (by rw [run_stop hlt hc]) (at_other hlt hA hc hcq)) (fun p' h1 h2 hh => ?_)
          have : p' = k := by omega
          subst this
          have h3 := hh.2.1
          rw [at_eq s p' hlt] at h3
          exact beq_no hcq (Option.some.inj h3)
        · refine Or.inl ⟨k, Nat.le_refl _, ⟨hlt, ?_, he⟩, fun p' h1 h2 => absurd h1 (by omega), (at_quote hlt hA hc hcq).symm⟩
          rw [at_eq s k hlt, beq_of hcq]
      · refine fst_later (k' := k + 2) (by omega) (ih (k + 2) (by omega) (by omega) (run_two hk hlt he hc) (at_back hlt hA hc)) (fun p' h1 h2 hh => ?_)
        by_cases e : p' = k
        · subst e
          have h3 := hh.2.1
          rw [at_eq s p' hlt] at h3
          have h4 : s[p'] = 92 := beq_of (b := 92) hc
          exact hq ((Option.some.inj h3).symm.trans h4)
        · have e2 : p' = k + 1 := by omega
          subst e2
          have h3 := hh.2.2
          rw [run_back hk hlt hc] at h3
          omega
    · exact Or.inr ⟨fun p' h1 h2 => by have := h2.1; omega, (at_end hlt hA).symm⟩

/-- No hit from 1 to p. -/
def NoHit (s : ByteArray) (q : UInt8) (p : Nat) : Prop := ∀ p', 1 ≤ p' → p' < p → ¬ Hit s q p'
theorem nohit_succ {s : ByteArray} {q : UInt8} {p : Nat} (h : NoHit s q p) (hn : ¬ Hit s q p) : NoHit s q (p + 1) := by
  intro p' h1 h2
  by_cases e : p' < p
  · exact h p' h1 e
  · have : p' = p := by omega
    subst this; exact hn
theorem fst_hit {s : ByteArray} {q : UInt8} {R p : Nat} (h : Fst s q R 1) (hn : NoHit s q p) (hp : 1 ≤ p) (hh : Hit s q p) : R = p + 1 := by
  rcases h with ⟨p2, hp2, hh2, hn2, e⟩ | ⟨hn2, e⟩
  · have h1 : ¬ p < p2 := fun c => hn2 p hp c hh
    have h2 : ¬ p2 < p := fun c => hn p2 hp2 c hh2
    omega
  · exact absurd hh (hn2 p hp)
theorem fst_none {s : ByteArray} {q : UInt8} {R p : Nat} (h : Fst s q R 1) (hn : NoHit s q p) (hp : s.size ≤ p) : R = s.size := by
  rcases h with ⟨p2, hp2, hh2, hn2, e⟩ | ⟨hn2, e⟩
  · exact absurd hh2 (hn p2 hp2 (by have := hh2.1; omega))
  · exact e
theorem fst_bound {s : ByteArray} {q : UInt8} {R : Nat} (h : Fst s q R 1) (h0 : 0 < s.size) : 1 ≤ R ∧ R ≤ s.size := by
  rcases h with ⟨p2, hp2, hh2, hn2, e⟩ | ⟨hn2, e⟩
  · have := hh2.1; omega
  · omega
theorem hit_of {s : ByteArray} {q : UInt8} {p : Nat} (hlt : p < s.size) (h1 : ((s[p].toNat : Int) == (q.toNat : Int)) = true) (h2 : evenB (run s p) = true) : Hit s q p := by
  refine ⟨hlt, ?_, ?_⟩
  · rw [at_eq s p hlt, beq_of h1]
  · exact of_decide_eq_true h2
theorem nohit_q {s : ByteArray} {q : UInt8} {p : Nat} (hlt : p < s.size) (h1 : ((s[p].toNat : Int) == (q.toNat : Int)) = false) : ¬ Hit s q p := by
  intro h
  have h3 := h.2.1
  rw [at_eq s p hlt] at h3
  exact beq_no h1 (Option.some.inj h3)
theorem nohit_e {s : ByteArray} {q : UInt8} {p : Nat} (h2 : evenB (run s p) = false) : ¬ Hit s q p := by
  intro h
  exact of_decide_eq_false h2 h.2.2

/-- tokenLen's answer at a text that opens with a quote. -/
theorem fst_tok (s : ByteArray) (h0 : 0 < s.size) (hq : s[0] = 39 ∨ s[0] = 34 ∨ s[0] = 96) : ∃ R, At s s[0] R 1 ∧ Fst s s[0] R 1 ∧ 1 ≤ R ∧ R ≤ s.size := by
  have hq92 : s[0] ≠ 92 := by rcases hq with h | h | h <;> rw [h] <;> decide
  have hF := fst_of s s[0] _ hq92 (s.size + 1) 1 (by omega) (Nat.le_refl _) rfl rfl
  exact ⟨_, rfl, hF, fst_bound hF h0⟩

set_option maxHeartbeats 400000 in
theorem zz5_yes (a : ByteArray) (w : World) (h : a.size ≤ 1048576) : Calls Try.prog 5 #[.string a] w fun e w' => e = .returned (.bool true) ∧ w = w' := by
  go_enter Try.func5, Try.ntmps5
  go_wp2
  go_ret
  exact ⟨rfl, rfl⟩
set_option maxHeartbeats 400000 in
theorem zz5_no (a : ByteArray) (w : World) (ha : a.size ≤ 9223372036854775807) (h : ¬ a.size ≤ 1048576) : Calls Try.prog 5 #[.string a] w fun e w' => e = .returned (.bool false) ∧ w = w' := by
  go_enter Try.func5, Try.ntmps5
  go_wp2
  go_ret
  exact ⟨rfl, rfl⟩

theorem zz_quoted' (s : ByteArray) (R : Nat) (w : World) (hs : s.size ≤ 4194304) (h0 : 0 < s.size) (hq : s[0] = 39 ∨ s[0] = 34 ∨ s[0] = 96) (hR : At s s[0] R 1) :
    Calls Try.prog 6 #[.string s] w fun e w' => e = .returned (.int .i64 R) ∧ w = w' :=
  (zz_quoted s R w hs h0 hq hR).mono fun e w' h => ⟨h.1, h.2.symm⟩

set_option maxHeartbeats 1000000 in
theorem walk_quoted (s : ByteArray) (w : World) (hs : s.size ≤ 1048576) (h0 : 0 < s.size) (hq : s[0] = 39 ∨ s[0] = 34 ∨ s[0] = 96) :
    Calls Try.prog 3 #[.string s] w fun e w' => e = .returned (.bool true) ∧ w = w' := by
  obtain ⟨R, hA, hF, hR1, hR2⟩ := fst_tok s h0 hq
  have hz := hid (fun w => zz_quoted' s R w (by omega) h0 hq hA)
  clear hA
  have hq' : (((s[0].toNat : Int) == 39) = true ∨ (((s[0].toNat : Int) == 39) = false ∧ ((s[0].toNat : Int) == 34) = true) ∨ (((s[0].toNat : Int) == 39) = false ∧ ((s[0].toNat : Int) == 34) = false ∧ ((s[0].toNat : Int) == 96) = true)) := by
    rcases hq with h | h | h <;> rw [h] <;> decide
  clear hq
  have b1 : decide ((R : Int) < 1) = false := by simp; omega
  have b2 : decide (s.size < R) = false := by simp; omega
  have b3 : decide ((1048576 : Int) < (s.size : Int)) = false := by simp; omega
  rcases hq' with hA | ⟨hA, hB⟩ | ⟨hA, hB, hC⟩
  all_goals
    go_enter Try.func3, Try.ntmps3
    go_wp2_with (first
      | (go_at_call 5; refine (zz5_yes _ _ (by omega)).mono ?_; rintro e w' ⟨rfl, rfl⟩)
      | (go_at_call 6; refine (hz.out _).mono ?_; rintro e w' ⟨rfl, rfl⟩))
    go_loop [5, 6] (fun v i => ∃ p : Nat, 1 ≤ p ∧ p ≤ s.size ∧ v = .int .i64 s.size ∧ i = .int .i64 p ∧ NoHit s s[0] p) (fun _ i => s.size - (intOf i).toNat)
    case atStart => exact ⟨1, Nat.le_refl _, by omega, rfl, rfl, fun p' h1 h2 => absurd h1 (by omega)⟩
    case round =>
      obtain ⟨p, hp1, hp2, rfl, rfl, hno⟩ := hrel
      by_cases hlt : p < s.size
      · cases h1 : ((s[p].toNat : Int) == (s[0].toNat : Int))
        · have hno' := nohit_succ hno (nohit_q hlt h1)
          clear hno
          go_wp2
          go_round
          case rel => exact ⟨p + 1, by omega, by omega, rfl, by go_num, hno'⟩
          case measure => simp [intOf]; omega
        · cases h2 : evenB (run s p)
          · have hno' := nohit_succ hno (nohit_e h2)
            clear hno
            go_wp2_with (go_at_call 7; refine (even_run s p _ (by omega) (by omega) (by omega)).mono ?_; rintro e w' ⟨rfl, rfl⟩)
            go_round
            case rel => exact ⟨p + 1, by omega, by omega, rfl, by go_num, hno'⟩
            case measure => simp [intOf]; omega
          · have hR := fst_hit hF hno hp1 (hit_of hlt h1 h2)
            clear hno hF
            have hR' : ((R : Int) == (p : Int) + 1) = true := by simp; omega
            have HR := hid hR
            clear hR
            go_wp2_with (go_at_call 7; refine (even_run s p _ (by omega) (by omega) (by omega)).mono ?_; rintro e w' ⟨rfl, rfl⟩)
            go_ret
            exact ⟨rfl, rfl⟩
      · have hR := fst_none hF hno (by omega)
        clear hno hF
        have hR' : ((R : Int) == (s.size : Int)) = true := by simp; omega
        have HR := hid hR
        clear hR
        go_wp2
        go_ret
        exact ⟨rfl, rfl⟩

theorem zz_other (s : ByteArray) (w : World) (hs : s.size ≤ 4194304) (h0 : 0 < s.size) (q1 : ((s[0].toNat : Int) == 39) = false) (q2 : ((s[0].toNat : Int) == 34) = false) (q3 : ((s[0].toNat : Int) == 96) = false) (hw : wordB (s[0].toNat : Int) = false) :
    Calls Try.prog 6 #[.string s] w fun e w' => e = .returned (.int .i64 1) ∧ w = w' :=
  (zz_of (len_other s w hs h0 q1 q2 q3 hw)).mono fun e w' h => ⟨h.1, h.2.symm⟩
theorem tok_word' (c : Int) (w : World) (h0 : 0 ≤ c) (h1 : c ≤ 255) : Calls Try.prog 8 #[.int .u8 c] w fun e w' => e = .returned (.bool (wordB c)) ∧ w = w' :=
  (tok_word c w h0 h1).mono fun e w' h => ⟨h.1, h.2.symm⟩

set_option maxHeartbeats 1000000 in
theorem walk_other (s : ByteArray) (w : World) (hs : s.size ≤ 1048576) (h0 : 0 < s.size) (q1 : ((s[0].toNat : Int) == 39) = false) (q2 : ((s[0].toNat : Int) == 34) = false) (q3 : ((s[0].toNat : Int) == 96) = false) (hw : wordB (s[0].toNat : Int) = false) :
    Calls Try.prog 3 #[.string s] w fun e w' => e = .returned (.bool true) ∧ w = w' := by
  have hb0 := u8_lt s[0]
  have b3 : decide ((1048576 : Int) < (s.size : Int)) = false := by simp; omega
  go_enter Try.func3, Try.ntmps3
  go_wp2_with (first
      | (go_at_call 5; refine (zz5_yes _ _ (by omega)).mono ?_; rintro e w' ⟨rfl, rfl⟩)
      | (go_at_call 6; refine (zz_other s _ (by omega) h0 q1 q2 q3 hw).mono ?_; rintro e w' ⟨rfl, rfl⟩)
      | (go_at_call 8; refine (tok_word' _ _ (by omega) (by omega)).mono ?_; rintro e w' ⟨rfl, rfl⟩))
  go_ret
  exact ⟨rfl, rfl⟩

set_option maxHeartbeats 1000000 in
theorem walk_word (s : ByteArray) (w : World) (hs : s.size ≤ 1048576) (h0 : 0 < s.size) (q1 : ((s[0].toNat : Int) == 39) = false) (q2 : ((s[0].toNat : Int) == 34) = false) (q3 : ((s[0].toNat : Int) == 96) = false) (hw : wordB (s[0].toNat : Int) = true) :
    Calls Try.prog 3 #[.string s] w fun e w' => e = .returned (.bool true) ∧ w = w' := by
  have hb0 := u8_lt s[0]
  have b3 : decide ((1048576 : Int) < (s.size : Int)) = false := by simp; omega
  go_enter Try.func3, Try.ntmps3
  go_wp2_with (go_at_call 5; refine (zz5_yes _ _ (by omega)).mono ?_; rintro e w' ⟨rfl, rfl⟩)
  refine (zz_word s _ (by omega) h0 q1 q2 q3 hw).mono ?_
  rintro e w' ⟨r, rfl, rfl, hr⟩
  obtain ⟨hr1, hr2, hall, hend⟩ := hr
  have b1 : decide ((r : Int) < 1) = false := by simp; omega
  have b2 : decide (s.size < r) = false := by simp; omega
  have HE := hid hend
  clear hend
  go_wp2_with (go_at_call 8; refine (tok_word' _ _ (by omega) (by omega)).mono ?_; rintro e w' ⟨rfl, rfl⟩)
  go_loop [7] (fun i => ∃ k : Nat, k ≤ r ∧ i = .int .i64 k) (fun i => r - (intOf i).toNat)
  case atStart => exact ⟨0, Nat.zero_le _, rfl⟩
  case round =>
    obtain ⟨k, hk, rfl⟩ := hrel
    by_cases hlt : k < r
    · have hks : k < s.size := by omega
      have hbk := u8_lt s[k]
      have hwk := hall k hks hlt
      go_wp2_with (go_at_call 8; refine (tok_word' _ _ (by omega) (by omega)).mono ?_; rintro e w' ⟨rfl, rfl⟩)
      go_round
      case rel => exact ⟨k + 1, by omega, by go_num⟩
      case measure => simp [intOf]; omega
    · by_cases hrs : r < s.size
      · have hbr := u8_lt s[r]
        have hwr := HE.out hrs
        have b4 : ((r : Int) == (s.size : Int)) = false := by simp; omega
        go_wp2_with (go_at_call 8; refine (tok_word' _ _ (by omega) (by omega)).mono ?_; rintro e w' ⟨rfl, rfl⟩)
        go_ret
        exact ⟨rfl, rfl⟩
      · have b4 : ((r : Int) == (s.size : Int)) = true := by simp; omega
        go_wp2
        go_ret
        exact ⟨rfl, rfl⟩
end First
end Go.Proofs.Qxb6619417a
