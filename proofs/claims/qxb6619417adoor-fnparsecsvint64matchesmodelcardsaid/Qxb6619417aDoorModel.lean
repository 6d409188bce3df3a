/-
  THE WALK of csvInt64Model: it answers as strconv.ParseInt does.
-/
import Derived.Test.Qxb6619417aDoorFast
import Derived.Test.Qxb6619417aDoorNot
namespace Go.Proofs.Qxb6619417aDoor
open Go.RowKit
set_option linter.unusedVariables false
set_option linter.unusedSimpArgs false
namespace Model
open Csv

/-- 'int64(^m + 1)' as the walk spells it. -/
theorem neg_w64 (a : Int) (h0 : 0 ≤ a) (h : a ≤ 9223372036854775808) : wrap64 (IntKind.u64.wrap (bits .xor .u64 IntKind.u64.max a + 1)) = -a := by
  have e : a = (a.toNat : Int) := by omega
  rw [e, Neg.u64_not _ (by omega), Neg.wrap_u]
  generalize a.toNat = n at *
  unfold wrap64
  omega
/-- What the loop keeps: a spells the digits before k. -/
def Md (l : List UInt8) (E : Lib.NumEnd Nat) (k : Nat) (a : Int) : Prop := ∃ acc : Nat, a = (acc : Int) ∧ acc < 18446744073709551616 ∧ Lib.parseUint10 acc (l.drop k) = E

theorem md_bound {l : List UInt8} {E : Lib.NumEnd Nat} {k : Nat} {a : Int} (h : Md l E k a) : 0 ≤ a ∧ a ≤ 18446744073709551615 := by
  obtain ⟨acc, rfl, h1, _⟩ := h; omega
theorem md_bad {l : List UInt8} {E : Lib.NumEnd Nat} {k : Nat} {a : Int} (h : Md l E k a) (hlt : k < l.length) (h1 : ¬ (48 ≤ (l[k].toNat : Int) ∧ (l[k].toNat : Int) ≤ 57)) (neg : Bool) : Pl.fin neg E = (0, false) := by
  obtain ⟨acc, rfl, ha, hp⟩ := h
  rw [List.drop_eq_getElem_cons hlt, Lib.parseUint10, if_neg (by omega)] at hp
  rw [← hp]; rfl
theorem md_over {l : List UInt8} {E : Lib.NumEnd Nat} {k : Nat} {a : Int} (h : Md l E k a) (hlt : k < l.length) (h1 : 48 ≤ (l[k].toNat : Int)) (h2 : (l[k].toNat : Int) ≤ 57) (ho : (18446744073709551615 - ((l[k].toNat : Int) - 48)) / 10 < a) (neg : Bool) :
    Pl.fin neg E = if neg then (-9223372036854775808, false) else (9223372036854775807, false) := by
  obtain ⟨acc, rfl, ha, hp⟩ := h
  rw [List.drop_eq_getElem_cons hlt, Lib.parseUint10, if_pos ⟨by omega, by omega⟩] at hp
  by_cases h3 : 1844674407370955162 ≤ acc
  · rw [if_pos h3] at hp
    rw [← hp]; rfl
  · rw [if_neg h3, if_pos (by omega)] at hp
    rw [← hp]; rfl
theorem md_step {l : List UInt8} {E : Lib.NumEnd Nat} {k : Nat} {a : Int} (h : Md l E k a) (hlt : k < l.length) (h1 : 48 ≤ (l[k].toNat : Int)) (h2 : (l[k].toNat : Int) ≤ 57) (ho : ¬ (18446744073709551615 - ((l[k].toNat : Int) - 48)) / 10 < a) :
    Md l E (k + 1) (a * 10 + ((l[k].toNat : Int) - 48)) ∧ a * 10 + ((l[k].toNat : Int) - 48) ≤ 18446744073709551615 ∧ a * 10 ≤ 18446744073709551615 := by
  obtain ⟨acc, rfl, ha, hp⟩ := h
  rw [List.drop_eq_getElem_cons hlt, Lib.parseUint10, if_pos ⟨by omega, by omega⟩, if_neg (by omega), if_neg (by omega)] at hp
  exact ⟨⟨acc * 10 + (l[k].toNat - 48), by omega, by omega, hp⟩, by omega, by omega⟩
theorem md_end {l : List UInt8} {E : Lib.NumEnd Nat} {k : Nat} {a : Int} (h : Md l E k a) (hge : ¬ k < l.length) :
    Pl.fin true E = (if 9223372036854775808 < a then (-9223372036854775808, false) else (-a, true)) ∧ Pl.fin false E = (if 9223372036854775807 < a then (9223372036854775807, false) else (a, true)) := by
  obtain ⟨acc, rfl, ha, hp⟩ := h
  rw [List.drop_eq_nil_of_le (by omega), Lib.parseUint10] at hp
  rw [← hp]
  refine ⟨?_, ?_⟩
  · simp only [Pl.fin]
    rw [if_pos trivial]
    by_cases h1 : 9223372036854775808 < acc
    · rw [if_pos h1, if_pos (by omega)]
    · rw [if_neg h1, if_neg (by omega)]
  · simp only [Pl.fin]
    rw [if_neg (by decide)]
    by_cases h1 : 9223372036854775808 ≤ acc
    · rw [if_pos h1, if_pos (by omega)]
    · rw [if_neg h1, if_neg (by omega)]
theorem md_start (l : List UInt8) (st : Nat) : Md l (Lib.parseUint10 0 (l.drop st)) st 0 := ⟨0, rfl, by omega, rfl⟩

set_option maxRecDepth 100000 in
set_option maxHeartbeats 2000000 in
theorem core (g cap n st : Nat) (l : List UInt8) (c : UInt8) (neg : Bool) (V : Int) (ok : Bool) (w : World) (hst : st < n) (hn : n ≤ 4194304) (hl : n = l.length) (hb : ∀ j (hj : j < l.length), w.cell? ⟨g, j, none⟩ = some (.int .u8 (l[j].toNat : Int)))
    (hc : w.cell? ⟨g, 0, none⟩ = some (.int .u8 (c.toNat : Int)))
    (hs : (((c.toNat : Int) == 45) = true ∧ neg = true ∧ st = 1) ∨ (((c.toNat : Int) == 45) = false ∧ ((c.toNat : Int) == 43) = true ∧ neg = false ∧ st = 1) ∨ (((c.toNat : Int) == 45) = false ∧ ((c.toNat : Int) == 43) = false ∧ neg = false ∧ st = 0))
    (hF : Pl.fin neg (Lib.parseUint10 0 (l.drop st)) = (V, ok)) :
    Calls Tryd.prog 9 #[.slice (some ⟨g, 0, none⟩) n cap] w fun e w' => e = .returned (.tuple #[.int .i64 V, .bool ok]) ∧ w = w' := by
  have hst0 := md_start l st
  generalize Lib.parseUint10 0 (l.drop st) = E at hF hst0
  have HF := hid hF
  have HL := hid hl
  have HB := hid hb
  clear hF hl hb
  rcases hs with ⟨h45, rfl, rfl⟩ | ⟨h45, h43, rfl, rfl⟩ | ⟨h45, h43, rfl, rfl⟩
  case' inl => have b0 : ((1 : Int) == (n : Int)) = false := beq_eq_false_iff_ne.2 (by omega)
  case' inr.inl => have b0 : ((1 : Int) == (n : Int)) = false := beq_eq_false_iff_ne.2 (by omega)
  case' inr.inr => have b0 : ((0 : Int) == (n : Int)) = false := beq_eq_false_iff_ne.2 (by omega)
  all_goals
    go_enter Tryd.func9, Tryd.ntmps9
    go_wp2
    go_loop [5, 6] (fun i m => ∃ (k : Nat) (a : Int), k ≤ n ∧ i = .int .i64 k ∧ m = .int .u64 a ∧ Md l E k a) (fun i _ => n - (intOf i).toNat)
    case atStart => first | exact ⟨0, 0, by omega, rfl, rfl, hst0⟩ | exact ⟨1, 0, by omega, rfl, rfl, hst0⟩
    case round =>
      obtain ⟨k, a, hk, rfl, rfl, hs⟩ := hrel
      have hab := md_bound hs
      by_cases hlt : k < n
      · have hkl : k < l.length := by have := HL.out; omega
        have hcell := HB.out k hkl
        have hc0 : (0 : Int) ≤ (l[k].toNat : Int) ∧ (l[k].toNat : Int) ≤ 255 := by have := l[k].toNat_lt; omega
        by_cases d1 : 48 ≤ (l[k].toNat : Int)
        · by_cases d2 : (l[k].toNat : Int) ≤ 57
          · by_cases ho : (18446744073709551615 - ((l[k].toNat : Int) - 48)) / 10 < a
            · have hF2 := md_over hs hkl d1 d2 ho
              have HV := hid ((hF2 _).symm.trans HF.out)
              clear hF2 hs
              generalize l[k] = b at *
              go_wp2
              go_ret2
              exact ⟨ret2 HV.out, rfl⟩
            · obtain ⟨hs', hu1, hu2⟩ := md_step hs hkl d1 d2 ho
              clear hs
              generalize l[k] = b at *
              go_wp2
              go_round
              case rel => exact ⟨k + 1, _, by omega, by go_num, rfl, hs'⟩
              case measure => simp [intOf]; omega
          · have hbad := fun x => md_bad hs hkl (by omega) x
            have hV := hid ((hbad _).symm.trans HF.out)
            clear hbad hs
            generalize l[k] = b at *
            go_wp2
            go_ret2
            exact ⟨ret2 hV.out, rfl⟩
        · have hbad := fun x => md_bad hs hkl (by omega) x
          have hV := hid ((hbad _).symm.trans HF.out)
          clear hbad hs
          generalize l[k] = b at *
          go_wp2
          go_ret2
          exact ⟨ret2 hV.out, rfl⟩
      · have hend := md_end hs (by have := HL.out; omega)
        have HE := hid hend
        clear hend hs
        by_cases g2 : 9223372036854775808 < a
        · have E1 := hid (HE.out.1.trans (if_pos g2))
          have E2 := hid (HE.out.2.trans (if_pos (show 9223372036854775807 < a by omega)))
          clear HE
          go_wp2
          go_ret2
          first
            | exact ⟨ret2 (E1.out.symm.trans HF.out), rfl⟩
            | exact ⟨ret2 (E2.out.symm.trans HF.out), rfl⟩
        · have hng := neg_w64 a hab.1 (by omega)
          have E1 := hid (HE.out.1.trans (if_neg g2))
          by_cases g1 : 9223372036854775807 < a
          · have E2 := hid (HE.out.2.trans (if_pos g1))
            clear HE
            go_wp2
            go_ret2
            first
              | exact ⟨ret2 (E1.out.symm.trans HF.out), rfl⟩
              | exact ⟨ret2 (E2.out.symm.trans HF.out), rfl⟩
          · have E2 := hid (HE.out.2.trans (if_neg g1))
            clear HE
            go_wp2
            go_ret2
            first
              | exact ⟨ret2 (E1.out.symm.trans HF.out), rfl⟩
              | exact ⟨ret2 (E2.out.symm.trans HF.out), rfl⟩

set_option maxRecDepth 100000 in
set_option maxHeartbeats 1000000 in
/-- No byte. -/
theorem none0 (a : Option Addr) (cap : Nat) (w : World) :
    Calls Tryd.prog 9 #[.slice a 0 cap] w fun e w' => e = .returned (.tuple #[.int .i64 0, .bool false]) ∧ w = w' := by
  go_enter Tryd.func9, Tryd.ntmps9
  go_wp2
  go_ret2
  exact ⟨rfl, rfl⟩
set_option maxRecDepth 100000 in
set_option maxHeartbeats 1000000 in
/-- A sign alone. -/
theorem sign1 (g cap : Nat) (c : UInt8) (w : World) (hc : w.cell? ⟨g, 0, none⟩ = some (.int .u8 (c.toNat : Int)))
    (hs : ((c.toNat : Int) == 45) = true ∨ (((c.toNat : Int) == 45) = false ∧ ((c.toNat : Int) == 43) = true)) :
    Calls Tryd.prog 9 #[.slice (some ⟨g, 0, none⟩) 1 cap] w fun e w' => e = .returned (.tuple #[.int .i64 0, .bool false]) ∧ w = w' := by
  rcases hs with h45 | ⟨h45, h43⟩
  all_goals
    go_enter Tryd.func9, Tryd.ntmps9
    go_wp2
    go_ret2
    exact ⟨rfl, rfl⟩

/-- csvInt64Model at every row of bytes. -/
theorem model_any (g cap : Nat) (l : List UInt8) (w : World) (hb : Byt w 5 g cap l) (hlen : l.length ≤ 4194304) :
    Calls Tryd.prog 9 #[.slice (some ⟨g, 0, none⟩) l.length cap] w fun e w' => e = .returned (.tuple #[.int .i64 (Pl.ans l).1, .bool (Pl.ans l).2]) ∧ w = w' := by
  rcases l with _ | ⟨c, r⟩
  · exact none0 _ cap w
  · have hc := hb.cell 0 (by simp)
    simp only [List.getElem_cons_zero] at hc
    by_cases hs : c.toNat = 43 ∨ c.toNat = 45
    · have hs' : ((c.toNat : Int) == 45) = true ∨ (((c.toNat : Int) == 45) = false ∧ ((c.toNat : Int) == 43) = true) := by
        by_cases h45 : c.toNat = 45
        · exact Or.inl (b45 h45)
        · exact Or.inr ⟨n45 h45, b43 (by omega)⟩
      by_cases hr : 1 ≤ r.length
      · have hF : Pl.ans (c :: r) = Pl.fin (decide (c.toNat = 45)) (Lib.parseUint10 0 r) := by rw [Pl.ans_of, if_pos hs, mag_ne hr]
        refine core g cap (c :: r).length 1 (c :: r) c (decide (c.toNat = 45)) _ _ w (by simp; omega) hlen rfl (fun j hj => hb.cell j hj) hc ?_ hF.symm
        by_cases h45 : c.toNat = 45
        · exact Or.inl ⟨b45 h45, decide_eq_true h45, rfl⟩
        · exact Or.inr (Or.inl ⟨n45 h45, b43 (by omega), decide_eq_false h45, rfl⟩)
      · have hr0 : r = [] := List.eq_nil_of_length_eq_zero (by omega)
        subst hr0
        have hF : Pl.ans [c] = (0, false) := by rw [Pl.ans_of, if_pos hs]; rfl
        rw [hF]
        exact sign1 g cap c w hc hs'
    · have hF : Pl.ans (c :: r) = Pl.fin false (Lib.parseUint10 0 (c :: r)) := by
        rw [Pl.ans_of, if_neg hs, mag_ne (by simp), decide_eq_false (by omega)]
      exact core g cap (c :: r).length 0 (c :: r) c false _ _ w (by simp) hlen rfl (fun j hj => hb.cell j hj) hc (Or.inr (Or.inr ⟨n45 (by omega), n43 (by omega), rfl, rfl⟩)) hF.symm
end Model
end Go.Proofs.Qxb6619417aDoor
