/-
  THE WALK of FnParseCSVInt64MatchesModel.
-/
import Derived.Test.Qxb6619417aDoorModel
import Derived.Test.Qxb6619417aDoorClone
import Derived.Test.Qxb6619417aDoorWritten
import Derived.WalkSpells
namespace Go.Proofs.Qxb6619417aDoor
open Go.RowKit
set_option linter.unusedVariables false
set_option linter.unusedSimpArgs false
namespace Matches
open Csv Model Written

/-- The bytes of a slice that came in. -/
theorem bytes_of {w : World} {x : Addr} {len : Nat} {zs : List Int} (hl : len ≤ zs.length) (hc : ∀ i, i < zs.length → w.cell? (x.add i) = some (.int .u8 (zs.getD i 0))) (hz : ∀ n ∈ zs, (Lit.int .u8 n).wf = true) :
    ∃ l : List UInt8, l.length = len ∧ ∀ j (hj : j < l.length), w.cell? (x.add j) = some (.int .u8 (l[j].toNat : Int)) := by
  refine ⟨(zs.take len).map fun n => UInt8.ofNat n.toNat, by simp; omega, fun j hj => ?_⟩
  have hj' : j < len := by simp at hj; omega
  have hjz : j < zs.length := by omega
  rw [hc j hjz]
  have hb := hz (zs[j]) (List.getElem_mem hjz)
  have hb2 : 0 ≤ zs[j] ∧ zs[j] ≤ 255 := by
    simp [Lit.wf] at hb
    have e1 : IntKind.u8.min = 0 := rfl
    have e2 : IntKind.u8.max = 255 := rfl
    omega
  have e : zs.getD j 0 = zs[j] := by simp [List.getD, hjz]
  rw [e]
  simp only [List.getElem_map, List.getElem_take, UInt8.toNat_ofNat']
  congr 2
  omega

set_option maxHeartbeats 400000 in
theorem zz7_yes (a : Option Addr) (n cap : Nat) (w : World) (h : n ≤ 1048576) : Calls Tryd.prog 7 #[.slice a n cap] w fun e w' => e = .returned (.bool true) ∧ w = w' := by
  go_enter Tryd.func7, Tryd.ntmps7
  go_wp2
  go_ret
  exact ⟨rfl, rfl⟩
set_option maxHeartbeats 400000 in
theorem zz7_no (a : Option Addr) (n cap : Nat) (w : World) (h2 : n ≤ 9223372036854775807) (h : ¬ n ≤ 1048576) : Calls Tryd.prog 7 #[.slice a n cap] w fun e w' => e = .returned (.bool false) ∧ w = w' := by
  go_enter Tryd.func7, Tryd.ntmps7
  go_wp2
  go_ret
  exact ⟨rfl, rfl⟩

theorem model_at {g cap n : Nat} {L : List UInt8} {V : Int} {ok : Bool} {w : World} (hb : Byt w 5 g cap L) (hn : n = L.length) (hl : L.length ≤ 4194304) (ha : Pl.ans L = (V, ok)) :
    Calls Tryd.prog 9 #[.slice (some ⟨g, 0, none⟩) n cap] w fun e w' => e = .returned (.tuple #[.int .i64 V, .bool ok]) ∧ w = w' := by
  subst hn
  have := model_any g cap L w hb hl
  rw [ha] at this
  exact this

set_option maxRecDepth 100000 in
set_option maxHeartbeats 1000000 in
theorem walk_nil (w : World) (he : Errs w) :
    Calls Tryd.prog 3 #[.slice none 0 0] w fun e w' => e = .returned (.bool true) ∧ Below w.heap.size w w' := by
  have hnn := run_neq_slice_nil_any (P := Tryd.prog) w 22 5 none 0 0 0 0 Tryd.underlying22
  have hz := hid (zz_csv (csv_nil w he))
  go_enter Tryd.func3, Tryd.ntmps3
  go_wp2_with (first
    | (go_at_call 7; refine (zz7_yes _ _ _ _ (by omega)).mono ?_; rintro e w' ⟨rfl, rfl⟩)
    | (go_at_call 8; refine (hz.out).mono ?_; rintro e w1 ⟨rfl, hb⟩)
    | (go_at_call 9; refine (none0 _ _ _).mono ?_; rintro e w2 ⟨rfl, rfl⟩))
  go_ret
  exact ⟨rfl, hb⟩

set_option maxRecDepth 100000 in
set_option maxHeartbeats 1000000 in
theorem walk_row (x : Addr) (n cap : Nat) (l : List UInt8) (w : World) (he : Errs w) (hn : n ≤ 1048576) (hl : l.length = n) (hx : ∀ j (hj : j < l.length), w.cell? (x.add j) = some (.int .u8 (l[j].toNat : Int))) :
    Calls Tryd.prog 3 #[.slice (some x) n cap] w fun e w' => e = .returned (.bool true) ∧ Below w.heap.size w w' := by
  have hnn := run_neq_slice_nil_any (P := Tryd.prog) w 22 5 (some x) n cap 0 0 Tryd.underlying22
  have HL := hid hl
  have HX := hid hx
  clear hl hx
  obtain ⟨i0, hi, hz0, hz1, hz2⟩ := info_parts info5
  obtain ⟨V, ok, ha⟩ : ∃ V ok, Pl.ans l = (V, ok) := ⟨_, _, rfl⟩
  have HA := hid ha
  clear ha
  go_enter Tryd.func3, Tryd.ntmps3
  go_wp2_with (first
    | (go_at_call 7; refine (zz7_yes _ _ _ _ (by omega)).mono ?_; rintro e w ⟨rfl, rfl⟩)
    | (at_make; refine wpList_make_full _ rfl _ _ 22 rfl 0 5 i0 (.int .u8 0) 1 Tryd.underlying22 hi hz0 hz1 _ _ _ _ n rfl rfl rfl rfl (by rw [hz2]; omega) (by unfold maxLen; omega) (Nat.zero_le _) ?_))
  intro w1 hown hgr
  have hsrc : ∀ j (hj : j < l.length), w1.cell? (x.add j) = some (.int .u8 (l[j].toNat : Int)) := fun j hj => hgr.cell (HX.out j hj) (by simp)
  obtain ⟨w2, hcp, hb2, hgr2⟩ := run_clone (P := Tryd.prog) w1 22 3 5 Tryd.underlying22 (by rw [hi]; simp [hz1]) w.heap.size n _ hown x cap l HL.out hsrc
  have bel2 : Below w.heap.size w w2 := ((Below.refl _ _).grown hgr (Nat.le_refl _) (fun k e => by cases e)).grown hgr2 hgr.size (fun k e => by cases e; exact Nat.le_refl _)
  have he2 := errs_below he bel2
  clear hown hgr hgr2 hsrc
  go_wp2_with (go_at_call 8; refine (zz_at hb2 HL.out.symm (by have := HL.out; omega) he2 HA.out).mono ?_)
  rintro e w3 ⟨rfl, bel3⟩
  have hb3 := hb2.below bel3 hb2.lt
  have bel := bel2.trans (bel3.mono bel2.size)
  clear hcp hb2 bel2 bel3 he2
  go_wp2_with (go_at_call 9; refine (model_at hb3 HL.out.symm (by have := HL.out; omega) HA.out).mono ?_; rintro e w4 ⟨rfl, rfl⟩)
  go_ret
  exact ⟨rfl, bel⟩
end Matches
end Go.Proofs.Qxb6619417aDoor
