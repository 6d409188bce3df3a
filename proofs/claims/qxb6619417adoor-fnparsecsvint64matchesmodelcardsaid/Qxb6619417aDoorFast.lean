/-
  THE WALK of parseCSVInt64 at 18 digits or fewer; and the contract of ZZparseCSVInt64 at every row of bytes.
-/
import Derived.Test.Qxb6619417aDoorCsv
import Derived.Laws.BytesArg
namespace Go.Proofs.Qxb6619417aDoor
open Go.RowKit
set_option linter.unusedVariables false
set_option linter.unusedSimpArgs false
namespace Csv

/-- What the loop keeps: a spells the digits before k. -/
def Fs (l : List UInt8) (E : Lib.NumEnd Nat) (k : Nat) (a : Int) : Prop := ∃ acc : Nat, a = (acc : Int) ∧ acc < 10 ^ k ∧ Lib.parseUint10 acc (l.drop k) = E

theorem pow17 : (10 : Nat) ^ 17 = 100000000000000000 := by decide
theorem pow18 : (10 : Nat) ^ 18 = 1000000000000000000 := by decide

theorem fs_bound {l : List UInt8} {E : Lib.NumEnd Nat} {k : Nat} {a : Int} (h : Fs l E k a) (hk : k ≤ 17) : 0 ≤ a ∧ a ≤ 99999999999999999 := by
  obtain ⟨acc, rfl, h1, _⟩ := h
  have h2 : 10 ^ k ≤ 10 ^ 17 := Nat.pow_le_pow_right (by decide) hk
  have h3 := pow17
  omega
theorem fs_bound' {l : List UInt8} {E : Lib.NumEnd Nat} {k : Nat} {a : Int} (h : Fs l E k a) (hk : k ≤ 18) : 0 ≤ a ∧ a ≤ 999999999999999999 := by
  obtain ⟨acc, rfl, h1, _⟩ := h
  have h2 : 10 ^ k ≤ 10 ^ 18 := Nat.pow_le_pow_right (by decide) hk
  have h3 := pow18
  omega
theorem fs_step {l : List UInt8} {E : Lib.NumEnd Nat} {k : Nat} {a : Int} (h : Fs l E k a) (hk : k ≤ 17) (hlt : k < l.length) (h1 : 48 ≤ (l[k].toNat : Int)) (h2 : (l[k].toNat : Int) ≤ 57) : Fs l E (k + 1) (a * 10 + ((l[k].toNat : Int) - 48)) := by
  obtain ⟨acc, rfl, ha, hp⟩ := h
  have h3 : 10 ^ k ≤ 10 ^ 17 := Nat.pow_le_pow_right (by decide) hk
  have h4 := pow17
  rw [List.drop_eq_getElem_cons hlt, Lib.parseUint10, if_pos ⟨by omega, by omega⟩, if_neg (by omega), if_neg (by omega)] at hp
  refine ⟨acc * 10 + (l[k].toNat - 48), by omega, ?_, hp⟩
  rw [Nat.pow_succ]; omega
theorem fs_bad {l : List UInt8} {E : Lib.NumEnd Nat} {k : Nat} {a : Int} (h : Fs l E k a) (hlt : k < l.length) (h1 : ¬ (48 ≤ (l[k].toNat : Int) ∧ (l[k].toNat : Int) ≤ 57)) (neg : Bool) : Pl.fin neg E = (0, false) := by
  obtain ⟨acc, rfl, ha, hp⟩ := h
  rw [List.drop_eq_getElem_cons hlt, Lib.parseUint10, if_neg (by omega)] at hp
  rw [← hp]; rfl
theorem fs_end {l : List UInt8} {E : Lib.NumEnd Nat} {k : Nat} {a : Int} (h : Fs l E k a) (hk : k ≤ 18) (hge : ¬ k < l.length) : Pl.fin false E = (a, true) ∧ Pl.fin true E = (-a, true) := by
  have hb := fs_bound' h hk
  obtain ⟨acc, rfl, ha, hp⟩ := h
  rw [List.drop_eq_nil_of_le (by omega), Lib.parseUint10] at hp
  rw [← hp]
  refine ⟨?_, ?_⟩
  · simp only [Pl.fin]
    rw [if_neg (by decide), if_neg (by omega)]
  · simp only [Pl.fin]
    rw [if_pos trivial, if_neg (by omega)]
theorem fs_start (l : List UInt8) : Fs l (Lib.parseUint10 0 l) 0 0 := ⟨0, rfl, by decide, rfl⟩

theorem ret2 {a b : Int} {c d : Bool} (h : (a, c) = (b, d)) : Ending.returned (.tuple #[.int .i64 a, .bool c]) = .returned (.tuple #[.int .i64 b, .bool d]) := by
  cases h; rfl
theorem wrap_low {c : Int} (h0 : 0 ≤ c) (h : c < 48) : IntKind.u8.wrap (c - 48) = c + 208 := by
  have : IntKind.u8.wrap (c - 48) = (c - 48) % 256 := rfl
  rw [this]; omega

set_option maxRecDepth 100000 in
set_option maxHeartbeats 1000000 in
/-- No sign, 1 to 18 bytes. -/
theorem fast_plain (g cap n : Nat) (l : List UInt8) (c : UInt8) (V : Int) (ok : Bool) (w : World) (hn1 : 1 ≤ n) (hn : n ≤ 18) (hl : n = l.length) (hcap : n ≤ cap) (hb : ∀ j (hj : j < l.length), w.cell? ⟨g, j, none⟩ = some (.int .u8 (l[j].toNat : Int)))
    (hc : w.cell? ⟨g, 0, none⟩ = some (.int .u8 (c.toNat : Int))) (h1 : ((c.toNat : Int) == 45) = false) (h2 : ((c.toNat : Int) == 43) = false) (hF : Pl.fin false (Lib.parseUint10 0 l) = (V, ok)) :
    Calls Tryd.prog 17 #[.slice (some ⟨g, 0, none⟩) n cap] w fun e w' => e = .returned (.tuple #[.int .i64 V, .bool ok]) ∧ w = w' := by
  have hst := fs_start l
  generalize Lib.parseUint10 0 l = E at hF hst
  have HF := hid hF
  have HL := hid hl
  have HB := hid hb
  have b0 : ((n : Int) == 0) = false := beq_eq_false_iff_ne.2 (by omega)
  have b1 : decide ((18 : Int) < (n : Int)) = false := by simp; omega
  clear hF hl hb
  go_enter Tryd.func17, Tryd.ntmps17
  go_wp2
  go_loop [7, 48] (fun v i => ∃ (k : Nat) (a : Int), k ≤ n ∧ v = .int .i64 a ∧ i = .int .i64 k ∧ Fs l E k a) (fun _ i => n - (intOf i).toNat)
  case atStart => exact ⟨0, 0, Nat.zero_le _, rfl, rfl, hst⟩
  case round =>
    obtain ⟨k, a, hk, rfl, rfl, hs⟩ := hrel
    by_cases hlt : k < n
    · have hkl : k < l.length := by have := HL.out; omega
      have hab := fs_bound hs (by omega)
      have hcell := HB.out k hkl
      have hc0 : (0 : Int) ≤ (l[k].toNat : Int) ∧ (l[k].toNat : Int) ≤ 255 := by have := l[k].toNat_lt; omega
      by_cases d1 : 48 ≤ (l[k].toNat : Int)
      · by_cases d2 : (l[k].toNat : Int) ≤ 57
        · have hs' := fs_step hs (by omega) hkl d1 d2
          clear hs
          generalize l[k] = b at *
          go_wp2
          go_round
          case rel => exact ⟨k + 1, _, by omega, rfl, by go_num, hs'⟩
          case measure => simp [intOf]; omega
        · have hbad := fs_bad hs hkl (by omega) false
          have hV := hid (hbad.symm.trans HF.out)
          clear hbad hs
          generalize l[k] = b at *
          go_wp2
          go_ret2
          exact ⟨ret2 hV.out, rfl⟩
      · have hbad := fs_bad hs hkl (by omega) false
        have hV := hid (hbad.symm.trans HF.out)
        clear hbad hs
        generalize l[k] = b at *
        have hw := wrap_low hc0.1 (by omega)
        go_wp2
        go_ret2
        exact ⟨ret2 hV.out, rfl⟩
    · have hend := (fs_end hs (by omega) (by have := HL.out; omega)).1
      have hV := hid (hend.symm.trans HF.out)
      have hab := fs_bound' hs (by omega)
      clear hend hs
      go_wp2
      go_ret2
      exact ⟨ret2 hV.out, rfl⟩

set_option maxRecDepth 100000 in
set_option maxHeartbeats 1000000 in
/-- A sign, 1 to 18 bytes behind it. -/
theorem fast_signed (g cap m : Nat) (l : List UInt8) (c : UInt8) (V : Int) (ok : Bool) (w : World) (hn1 : 1 ≤ m) (hn : m ≤ 18) (hl : m = l.length) (hcap : m + 1 ≤ cap) (hb : ∀ j (hj : j < l.length), w.cell? ⟨g, 1 + j, none⟩ = some (.int .u8 (l[j].toNat : Int)))
    (hc : w.cell? ⟨g, 0, none⟩ = some (.int .u8 (c.toNat : Int))) (neg : Bool) (h1 : ((c.toNat : Int) == 45) = neg) (h2 : neg = false → ((c.toNat : Int) == 43) = true) (hF : Pl.fin neg (Lib.parseUint10 0 l) = (V, ok)) :
    Calls Tryd.prog 17 #[.slice (some ⟨g, 0, none⟩) (m + 1) cap] w fun e w' => e = .returned (.tuple #[.int .i64 V, .bool ok]) ∧ w = w' := by
  have hst := fs_start l
  generalize Lib.parseUint10 0 l = E at hF hst
  have HF := hid hF
  have HL := hid hl
  have HB := hid hb
  have b0 : ((m : Int) == 0) = false := beq_eq_false_iff_ne.2 (by omega)
  have b1 : decide ((18 : Int) < (m : Int)) = false := by simp; omega
  clear hF hl hb
  cases neg
  case' false => have h3 := h2 rfl
  all_goals
    clear h2
    go_enter Tryd.func17, Tryd.ntmps17
    go_wp2
    go_loop [7, 48] (fun v i => ∃ (k : Nat) (a : Int), k ≤ m ∧ v = .int .i64 a ∧ i = .int .i64 k ∧ Fs l E k a) (fun _ i => m - (intOf i).toNat)
    case atStart => exact ⟨0, 0, Nat.zero_le _, rfl, rfl, hst⟩
    case round =>
      obtain ⟨k, a, hk, rfl, rfl, hs⟩ := hrel
      by_cases hlt : k < m
      · have hkl : k < l.length := by have := HL.out; omega
        have hab := fs_bound hs (by omega)
        have hcell := HB.out k hkl
        have hc0 : (0 : Int) ≤ (l[k].toNat : Int) ∧ (l[k].toNat : Int) ≤ 255 := by have := l[k].toNat_lt; omega
        by_cases d1 : 48 ≤ (l[k].toNat : Int)
        · by_cases d2 : (l[k].toNat : Int) ≤ 57
          · have hs' := fs_step hs (by omega) hkl d1 d2
            clear hs
            generalize l[k] = b at *
            go_wp2
            go_round
            case rel => exact ⟨k + 1, _, by omega, rfl, by go_num, hs'⟩
            case measure => simp [intOf]; omega
          · have hbad := fun x => fs_bad hs hkl (by omega) x
            have hV := hid ((hbad _).symm.trans HF.out)
            clear hbad hs
            generalize l[k] = b at *
            go_wp2
            go_ret2
            exact ⟨ret2 hV.out, rfl⟩
        · have hbad := fun x => fs_bad hs hkl (by omega) x
          have hV := hid ((hbad _).symm.trans HF.out)
          clear hbad hs
          generalize l[k] = b at *
          have hw := wrap_low hc0.1 (by omega)
          go_wp2
          go_ret2
          exact ⟨ret2 hV.out, rfl⟩
      · have hend := fs_end hs (by omega) (by have := HL.out; omega)
        have HE := hid hend
        have hab := fs_bound' hs (by omega)
        clear hend hs
        go_wp2
        go_ret2
        first
          | exact ⟨ret2 (HE.out.1.symm.trans HF.out), rfl⟩
          | exact ⟨ret2 (HE.out.2.symm.trans HF.out), rfl⟩

theorem b45 {c : UInt8} (h : c.toNat = 45) : ((c.toNat : Int) == 45) = true := beq_iff_eq.2 (by omega)
theorem b43 {c : UInt8} (h : c.toNat = 43) : ((c.toNat : Int) == 43) = true := beq_iff_eq.2 (by omega)
theorem n45 {c : UInt8} (h : ¬ c.toNat = 45) : ((c.toNat : Int) == 45) = false := beq_eq_false_iff_ne.2 (by omega)
theorem n43 {c : UInt8} (h : ¬ c.toNat = 43) : ((c.toNat : Int) == 43) = false := beq_eq_false_iff_ne.2 (by omega)
theorem mag_ne {r : List UInt8} (h : 1 ≤ r.length) : Lib.parseMag r = Lib.parseUint10 0 r := by
  rw [Lib.parseMag, if_neg]; intro e; subst e; simp at h

/-- parseCSVInt64 at every row of bytes of the call's own. -/
theorem csv_any (g cap : Nat) (l : List UInt8) (w : World) (hb : Byt w 5 g cap l) (hlen : l.length ≤ 4194304) (he : Errs w) :
    Calls Tryd.prog 17 #[.slice (some ⟨g, 0, none⟩) l.length cap] w fun e w' => e = .returned (.tuple #[.int .i64 (Pl.ans l).1, .bool (Pl.ans l).2]) ∧ Below w.heap.size w w' := by
  have hpi := pi_of l hlen _ _ (show Pl.ans l = ((Pl.ans l).1, (Pl.ans l).2) from rfl)
  have hroom := hb.room.1
  have hcv := run_str hb rfl
  rcases l with _ | ⟨c, r⟩
  · exact slow0 g cap _ _ _ w he hpi hcv
  · have hc := hb.cell 0 (by simp)
    simp only [List.getElem_cons_zero] at hc
    simp only [List.length_cons] at hlen hroom hcv ⊢
    by_cases hs : c.toNat = 43 ∨ c.toNat = 45
    · by_cases hr : 1 ≤ r.length ∧ r.length ≤ 18
      · have hF : Pl.ans (c :: r) = Pl.fin (decide (c.toNat = 45)) (Lib.parseUint10 0 r) := by rw [Pl.ans_of, if_pos hs, mag_ne hr.1]
        refine (fast_signed g cap r.length r c _ _ w hr.1 hr.2 rfl (by omega) (fun j hj => ?_) hc (decide (c.toNat = 45)) ?_ ?_ hF.symm).mono fun e w' h => ⟨h.1, h.2 ▸ Below.refl _ _⟩
        · have := hb.cell (j + 1) (by simp; omega)
          rw [Nat.add_comm 1 j]
          simpa using this
        · by_cases h45 : c.toNat = 45
          · rw [decide_eq_true h45]; exact b45 h45
          · rw [decide_eq_false h45]; exact n45 h45
        · intro h
          have := of_decide_eq_false h
          exact b43 (by omega)
      · refine slow_signed g cap (r.length + 1) c _ _ _ w he hpi (by omega) (by omega) (by omega) hc ?_ hcv
        by_cases h45 : c.toNat = 45
        · exact Or.inl (b45 h45)
        · exact Or.inr ⟨n45 h45, b43 (by omega)⟩
    · have n1 : ((c.toNat : Int) == 45) = false := n45 (by omega)
      have n2 : ((c.toNat : Int) == 43) = false := n43 (by omega)
      by_cases hr : r.length + 1 ≤ 18
      · have hF : Pl.ans (c :: r) = Pl.fin false (Lib.parseUint10 0 (c :: r)) := by
          rw [Pl.ans_of, if_neg hs, mag_ne (by simp), decide_eq_false (by omega)]
        exact (fast_plain g cap (r.length + 1) (c :: r) c _ _ w (by omega) hr (by simp) (by omega) (fun j hj => hb.cell j hj) hc n1 n2 hF.symm).mono fun e w' h => ⟨h.1, h.2 ▸ Below.refl _ _⟩
      · exact slow_plain g cap (r.length + 1) c _ _ _ w he hpi (by omega) (by omega) (by omega) hc n1 n2 hcv

/-- .. and at nil. -/
theorem csv_nil (w : World) (he : Errs w) :
    Calls Tryd.prog 17 #[.slice none 0 0] w fun e w' => e = .returned (.tuple #[.int .i64 0, .bool false]) ∧ Below w.heap.size w w' :=
  slow_nil ByteArray.empty 0 false w he (pi_of [] (by simp) 0 false rfl) (run_convert_bytes_nil w 22 5 Tryd.underlying22 Tryd.underlying5 0 0 9 Tryd.underlying9)

set_option maxHeartbeats 400000 in
theorem zz_csv {v : Value} {V : Int} {ok : Bool} {w : World} (h : Calls Tryd.prog 17 #[v] w fun e w' => e = .returned (.tuple #[.int .i64 V, .bool ok]) ∧ Below w.heap.size w w') :
    Calls Tryd.prog 8 #[v] w fun e w' => e = .returned (.tuple #[.int .i64 V, .bool ok]) ∧ Below w.heap.size w w' := by
  have H := hid h
  clear h
  go_enter Tryd.func8, Tryd.ntmps8
  go_wp2_with (go_at_call 17; refine (H.out).mono ?_; rintro e w1 ⟨rfl, hb⟩)
  go_ret2
  exact ⟨rfl, hb⟩
end Csv
end Go.Proofs.Qxb6619417aDoor
