/-
  THE WALK of cloneBytes; the bytes of a slice that came in.
-/
import Derived.Test.Qxb6619578aApp
namespace Go.Proofs.Qxb6619578a
open Go.RowKit
set_option linter.unusedVariables false
set_option linter.unusedSimpArgs false
namespace Clone
open App

/-- The bytes of a slice that came in. -/
theorem bytes_of {w : World} {x : Addr} {len : Nat} {zs : List Int} (hl : len ≤ zs.length) (hc : ∀ i, i < zs.length → w.cell? (x.add i) = some (.int .u8 (zs.getD i 0))) (hz : ∀ n ∈ zs, (Lit.int .u8 n).wf = true) :
    ∃ l : List UInt8, l.length = len ∧ ∀ j (hj : j < l.length), w.cell? (x.add j) = some (.int .u8 (l[j].toNat : Int)) := by
  refine ⟨(zs.take len).map fun n => UInt8.ofNat n.toNat, by simp; omega, fun j hj => ?_⟩
  have hj' : j < len := by simp at hj; omega
  have hjz : j < zs.length := by omega
  rw [hc j hjz]
  have hb := hz (zs[j]) (List.getElem_mem hjz)
  have hb2 : 0 ≤ zs[j] ∧ zs[j] ≤ 255 := by
    simp [Lit.wf] at hb
    have e1 : IntKind.u8.min = 0 := rfl
    have e2 : IntKind.u8.max = 255 := rfl
    omega
  have e : zs.getD j 0 = zs[j] := by simp [List.getD, hjz]
  rw [e]
  simp only [List.getElem_map, List.getElem_take, UInt8.toNat_ofNat']
  congr 2
  omega

set_option maxHeartbeats 400000 in
theorem clone_nil (w : World) : Calls Try.prog 17 #[.slice none 0 0] w fun e w' => e = .returned (.slice none 0 0) ∧ w = w' := by
  have hnn := Lib.run_eql_slice_nil (P := Try.prog) w 25 5 none 0 0 0 0 Try.underlying25
  go_enter Try.func17, Try.ntmps17
  go_wp2
  go_ret
  exact ⟨rfl, rfl⟩

set_option maxHeartbeats 400000 in
/-- A slice that is not nil: a copy in a new row. -/
theorem clone_row (x : Addr) (n cap : Nat) (l : List UInt8) (w : World) (hn : n ≤ 1048576) (hl : Len n l) (hx : ∀ j (hj : j < l.length), w.cell? (x.add j) = some (.int .u8 (l[j].toNat : Int))) :
    Calls Try.prog 17 #[.slice (some x) n cap] w fun e w' => e = .returned (.slice (some ⟨w.heap.size, 0, none⟩) n n) ∧ Byt w' 5 w.heap.size n l ∧ w.grownBy w' none := by
  have hnn := Lib.run_eql_slice_nil (P := Try.prog) w 25 5 (some x) n cap 0 0 Try.underlying25
  have HX := hid hx
  clear hx
  obtain ⟨i0, hi, hz0, hz1, hz2⟩ := info_parts info5
  go_enter Try.func17, Try.ntmps17
  go_wp2_with (at_make; refine wpList_make_full _ rfl _ _ 25 rfl 0 5 i0 (.int .u8 0) 1 Try.underlying25 hi hz0 hz1 _ _ _ _ n rfl rfl rfl rfl (by rw [hz2]; omega) (by unfold maxLen; omega) (Nat.zero_le _) ?_)
  intro w1 hown hgr
  have hsrc : ∀ j (hj : j < l.length), w1.cell? (x.add j) = some (.int .u8 (l[j].toNat : Int)) := fun j hj => hgr.cell (HX.out j hj) (by simp)
  obtain ⟨w2, hcp, hb2, hgr2⟩ := run_clone (P := Try.prog) w1 25 3 5 Try.underlying25 (by rw [hi]; simp [hz1]) w.heap.size n _ hown x cap l (Eq.symm hl) hsrc
  have hg : w.grownBy w2 none := grownBy_trans hgr hgr2 (fun i e => by cases e; exact Or.inr (Nat.le_refl _))
  clear hown hgr hgr2 hsrc
  go_wp2
  go_ret
  exact ⟨rfl, hb2, hg⟩
end Clone
end Go.Proofs.Qxb6619578a
