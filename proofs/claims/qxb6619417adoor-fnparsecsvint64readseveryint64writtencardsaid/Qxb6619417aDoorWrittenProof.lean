/-
  THE ROW AND THE TIED CARD of FnParseCSVInt64ReadsEveryInt64Written.
-/
import Derived.Test.Qxb6619417aDoorWritten
import Derived.Test.Qxb6619417aDoorLaid
import Derived.Test.Qxb6619417aDoorTie
import Derived.Test.Qxb6619417aDoorCards
import Derived.ProofKit
import Derived.OpenShut
import Derived.SevenTiedAt
import Derived.Stop.Joined
namespace Go.Proofs.Qxb6619417aDoor.fnParseCSVInt64ReadsEveryInt64Written
open Go.ChangeShapes Go.WideShapes Go.ChangeAt Go.RowKit
set_option linter.unusedVariables false

theorem own : ownKnob Tryd.prog.godebug = none := by kernel_rfl

set_option maxRecDepth 100000 in
set_option maxHeartbeats 1000000 in
/-- THE WALK, every input. -/
theorem walk (x : Int) (plus : Bool) (z junk : Int) (w0 : (Lit.int .i64 x).wf = true) (w2 : (Lit.int .i64 z).wf = true) (w3 : (Lit.int .u8 junk).wf = true) (w : World) (he : Csv.Errs w) :
    Calls Tryd.prog 4 #[.int .i64 x, .bool plus, .int .i64 z, .int .u8 junk] w fun e w' => e = .returned (.bool true) ∧ Below w.heap.size w w' := by
  have hb0 := bounds_i64 w0
  have hb2 := bounds_i64 w2
  have hb3 := bounds_u8 w3
  by_cases hz : 0 ≤ z ∧ z ≤ 65536
  · obtain ⟨zn, rfl⟩ : ∃ zn : Nat, z = (zn : Int) := ⟨z.toNat, by omega⟩
    obtain ⟨j, rfl⟩ : ∃ j : UInt8, junk = (j.toNat : Int) := ⟨UInt8.ofNat junk.toNat, by rw [UInt8.toNat_ofNat']; omega⟩
    exact Written.walk_main x plus zn j w he (by omega) (by omega) (by omega)
  · have hzz : z < 0 ∨ 65536 < z := by omega
    clear hz w0 w2 w3 hb0 hb3
    rcases hzz with h | h
    · go_enter Tryd.func4, Tryd.ntmps4
      go_wp2
      go_ret
      exact ⟨rfl, Below.refl _ _⟩
    · go_enter Tryd.func4, Tryd.ntmps4
      go_wp2
      go_ret
      exact ⟨rfl, Below.refl _ _⟩

set_option maxRecDepth 100000 in
theorem lifted (os : Os) (started : os.Started) (H : Type) (enc : TypeId × Value → H) :
    ReturnsInHanded {} Tryd.checked os 4 .any (fun w args => (Rows.fnParseCSVInt64ReadsEveryInt64WrittenSpec.pre enc Tryd.prog Tryd.f4 Rows.fnParseCSVInt64ReadsEveryInt64WrittenRow.domain false w args ∧ laidMetH Tryd.prog Laid.five w) ∧ sizedMet enc Tryd.prog Tryd.f4 (OpenSpec.ofChange Rows.fnParseCSVInt64ReadsEveryInt64WrittenSpec) false w args)
      (Rows.fnParseCSVInt64ReadsEveryInt64WrittenSpec.post enc Tryd.prog Tryd.f4 false true false false) := by
  refine returnsInHanded_of_change_and (C := Tryd.checked) (X := fun w _ => laidMetH Tryd.prog Laid.five w) (fun _ _ _ hh h => h.of_heap hh) own started (by kernel_rfl) Tryd.func4
    (ChangeSpec.witness_shaped (enc := enc) (C := Tryd.checked) (os := os) (X := fun w _ => laidMetH Tryd.prog Laid.five w) false (World.laidAll Tryd.prog os Laid.five) #[.int .i64 0, .bool false, .int .i64 0, .int .u8 0] 8 (World.laidAll_os _ _ _)
      (World.shaped_of_ZipB (by kernel_rfl) (by kernel_rfl)) (by kernel_rfl) (by kernel_rfl) (by kernel_rfl) (Laid.met os _)) ?_
  intro W base args ds gs before hval0 hW _ _ hL _
  have hval : ∀ (j : Nat) t v, Tryd.f4.params[j]? = some t → args[j]? = some v → Value.okWide Tryd.prog W .any base t v := hval0
  have hW' := hW
  obtain ⟨p, q, hA0, hV, rfl, _, _⟩ := hW
  have hA : DataW.TrodAll enc Tryd.prog W 0 (fun _ => true) true Tryd.f4.params.toList args.toList ds p := hA0
  rw [Tryd.params4] at hA hval
  obtain ⟨v0, vs0, d0, ds0, p0, q0, hargs, rfl, rfl, h0, r0⟩ := trodAll_cons hA
  obtain ⟨v1, vs1, d1, ds1, p1, q1, rfl, rfl, rfl, h1, r1⟩ := trodAll_cons r0
  obtain ⟨v2, vs2, d2, ds2, p2, q2, rfl, rfl, rfl, h2, r2⟩ := trodAll_cons r1
  obtain ⟨v3, vs3, d3, ds3, p3, q3, rfl, rfl, rfl, h3, r3⟩ := trodAll_cons r2
  obtain ⟨rfl, rfl, rfl⟩ := trodAll_nil r3
  obtain rfl : args = #[v0, v1, v2, v3] := by cases args; simp_all
  obtain ⟨rfl, rfl⟩ := trodVars_none hV
  obtain ⟨a0, rfl, rfl, rfl, w0⟩ := open_int Tryd.underlying2 (hval 0 2 v0 rfl rfl) h0
  obtain ⟨a1, rfl, rfl, rfl⟩ := open_bool Tryd.underlying4 (hval 1 4 v1 rfl rfl) h1
  obtain ⟨a2, rfl, rfl, rfl, w2⟩ := open_int Tryd.underlying3 (hval 2 3 v2 rfl rfl) h2
  obtain ⟨a3, rfl, rfl, rfl, w3⟩ := open_int Tryd.underlying5 (hval 3 5 v3 rfl rfl) h3
  clear hA0 hval0
  simp only [List.append_nil] at hW'
  refine (walk a0 a1 a2 a3 w0 w2 w3 W (Laid.errs_of hL)).mono fun e W' ⟨he, bel⟩ => ?_
  subst he
  exact ⟨_, rfl, _, _, _, [], [], [], hW', trodAll_mk1 (shut_bool Tryd.underlying4 _), (trodAll_cons_mk (shut_int Tryd.underlying2 w0) (trodAll_cons_mk (shut_bool Tryd.underlying4 _) (trodAll_cons_mk (shut_int Tryd.underlying3 w2) (trodAll_cons_mk (shut_int Tryd.underlying5 w3) trodAll_mk0)))), rfl, bel.frame _, fun h => by cases h⟩

theorem over : Rows.FnParseCSVInt64ReadsEveryInt64WrittenSaid :=
  OpenClaim.holds_of_wide 4 Tryd.f4 rfl rfl rfl rfl rfl rfl rfl ⟨rfl, rfl, rfl, rfl, rfl⟩ rfl rfl rfl rfl rfl (by kernel_rfl) Tryd.func4 (by kernel_rfl)
    (of_decide_eq_true (by kernel_rfl)) (by unfold Func.isWrapper; first | (rw [if_pos (by decide +kernel)]; kernel_rfl) | (rw [if_neg (by decide +kernel)]; exact ⟨rfl, rfl⟩))
    (fun os started H enc _ => lifted os started H enc)

/-- THE TIED CARD. -/
theorem proved : Rows.FnParseCSVInt64ReadsEveryInt64WrittenCardSaid :=
  Claim7.holds_tied_plain_at .later [] [.data, .data, .data, .sentinel, .sentinel] true (true, "647a076e3caca89d9a4de41dfc3765328dd554a5d15193a7e2343c97e4013f7f") true
    over (fun _ h => by cases h) (by kernel_rfl) (fun _ h => by cases h) fnParseCSVInt64ReadsEveryInt64Written_row_tie rfl ⟨rfl, rfl⟩ (by kernel_rfl) rfl
    (fun f fn hf hfn => by
      obtain rfl : f = 4 := Option.some.inj ((show Tryd.prog.funcNamed Tryd.f4.name = some 4 by kernel_rfl).symm.trans hf) |>.symm
      obtain rfl : fn = Tryd.f4 := (Option.some.inj (Tryd.func4.symm.trans hfn)).symm
      exact ⟨by kernel_rfl, fun j t ht => by
        rw [Tryd.params4] at ht
        have hm : t ∈ [2, 4, 3, 5] := by simpa using Array.mem_of_getElem? ht
        have hall : ([2, 4, 3, 5].all fun u => !Tryd.prog.wantsStandIn u) = true := by kernel_rfl
        exact (show Tryd.prog.wantsStandIn t = false by simpa using List.all_eq_true.1 hall t hm)⟩)
    (by kernel_rfl)
end Go.Proofs.Qxb6619417aDoor.fnParseCSVInt64ReadsEveryInt64Written
