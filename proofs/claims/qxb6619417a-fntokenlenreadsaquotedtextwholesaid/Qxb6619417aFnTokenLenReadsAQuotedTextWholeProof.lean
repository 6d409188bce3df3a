/-
  THE PROOF OF 'Rows.FnTokenLenReadsAQuotedTextWholeSaid', on the guide's frame.
-/
import Derived.Test.Qxb6619417aRows
import Derived.Test.Qxb6619417aReads
import Derived.WalkKit
import Derived.ProofKit
import Derived.OpenShut
import Derived.ShutString
namespace Go.Proofs.Qxb6619417a.fnTokenLenReadsAQuotedTextWhole
open Go.ChangeShapes Go.WideShapes Go.ChangeAt Go.RowKit
open Go.ChangeMaps (open_string shut_string)
set_option linter.unusedVariables false      -- a walk need not use every 'w<i>' (that an integer argument fits its kind)

theorem own : ownKnob Try.prog.godebug = none := by kernel_rfl

set_option maxHeartbeats 400000 in
/-- THE WALK, every input. -/
theorem walk (a0 : Int) (a1 : ByteArray) (a2 : ByteArray) (w0 : (Lit.int .u8 a0).wf = true) (w1 : a1.size ≤ maxLen) (w2 : a2.size ≤ maxLen) (w : World) :
    Calls Try.prog 4 #[.int .u8 a0, .string a1, .string a2] w fun e w' => e = .returned (.bool true) ∧ Below w.heap.size w w' := by
  unfold maxLen at w1 w2
  have hb := bounds_u8 w0
  clear w0
  by_cases hsum : a1.size + a2.size ≤ 1048576
  · by_cases h1 : a1.size ≤ 524288
    · by_cases h2 : a2.size ≤ 524288
      · by_cases hq : a0 = 39 ∨ a0 = 34 ∨ a0 = 96
        · obtain ⟨q, rfl, hq'⟩ : ∃ q : UInt8, a0 = (q.toNat : Int) ∧ (q = 39 ∨ q = 34 ∨ q = 96) := by
            rcases hq with h | h | h
            · exact ⟨39, h, Or.inl rfl⟩
            · exact ⟨34, h, Or.inr (Or.inl rfl)⟩
            · exact ⟨96, h, Or.inr (Or.inr rfl)⟩
          exact Reads.walk_main q a1 a2 w hsum h1 h2 hq'
        · have q1 : (a0 != 39) = true := by rw [bne_iff_ne]; omega
          have q2 : (a0 != 34) = true := by rw [bne_iff_ne]; omega
          have q3 : (a0 != 96) = true := by rw [bne_iff_ne]; omega
          clear hq
          go_enter Try.func4, Try.ntmps4
          go_wp2_with (go_at_call 9; refine (Reads.zz9_yes _ _ _ _ (by omega)).mono ?_; rintro e w ⟨rfl, rfl⟩)
          go_ret
          exact ⟨rfl, Below.refl _ _⟩
      · go_enter Try.func4, Try.ntmps4
        go_wp2_with (go_at_call 9; refine (Reads.zz9_yes _ _ _ _ (by omega)).mono ?_; rintro e w ⟨rfl, rfl⟩)
        go_ret
        exact ⟨rfl, Below.refl _ _⟩
    · go_enter Try.func4, Try.ntmps4
      go_wp2_with (go_at_call 9; refine (Reads.zz9_yes _ _ _ _ (by omega)).mono ?_; rintro e w ⟨rfl, rfl⟩)
      go_ret
      exact ⟨rfl, Below.refl _ _⟩
  · go_enter Try.func4, Try.ntmps4
    go_wp2_with (go_at_call 9; refine (Reads.zz9_no _ _ _ _ (by omega) (by omega) (by omega)).mono ?_; rintro e w ⟨rfl, rfl⟩)
    go_ret
    exact ⟨rfl, Below.refl _ _⟩

/-! ### THE ROW's STEP: WRITTEN OUT: LEAVE IT -/
set_option maxRecDepth 100000 in
theorem lifted (os : Os) (started : os.Started) (H : Type) (enc : TypeId × Value → H) :
    ReturnsInHanded {} Try.checked os 4 .any (Rows.fnTokenLenReadsAQuotedTextWholeSpec.pre6 enc Try.prog Try.f4 Rows.fnTokenLenReadsAQuotedTextWholeRow.domain false) (Rows.fnTokenLenReadsAQuotedTextWholeSpec.post enc Try.prog Try.f4 false true false false) := by
  refine returnsInHanded_of_change (C := Try.checked) own started (by kernel_rfl) Try.func4
    (ChangeSpec.witness6 (enc := enc) (C := Try.checked) false ⟨#[], #[.int .u8 0, .string ByteArray.empty, .string ByteArray.empty], []⟩ 8 (by kernel_rfl) (by kernel_rfl) (by kernel_rfl) (by kernel_rfl)) ?_
  intro W base args ds gs before hval0 hW hcnd _
  have hval : ∀ (j : Nat) t v, Try.f4.params[j]? = some t → args[j]? = some v → Value.okWide Try.prog W .any base t v := hval0
  have hW' := hW
  obtain ⟨p, q, hA0, hV, rfl, hfz, hnd⟩ := hW
  have hA : DataW.TrodAll enc Try.prog W 0 (fun _ => true) true Try.f4.params.toList args.toList ds p := hA0
  rw [Try.params4] at hA hval
  obtain ⟨v0, vs0, d0, ds0, p0, q0, hargs, rfl, rfl, h0, r0⟩ := trodAll_cons hA
  obtain ⟨v1, vs1, d1, ds1, p1, q1, rfl, rfl, rfl, h1, r1⟩ := trodAll_cons r0
  obtain ⟨v2, vs2, d2, ds2, p2, q2, rfl, rfl, rfl, h2, r2⟩ := trodAll_cons r1
  obtain ⟨rfl, rfl, rfl⟩ := trodAll_nil r2
  obtain rfl : args = #[v0, v1, v2] := by cases args; simp_all
  obtain ⟨rfl, rfl⟩ := trodVars_none hV
  obtain ⟨a0, rfl, rfl, rfl, w0⟩ := open_int Try.underlying5 (hval 0 5 v0 rfl rfl) h0
  obtain ⟨a1, rfl, rfl, rfl, w1⟩ := open_string Try.underlying9 (hval 1 9 v1 rfl rfl) h1
  obtain ⟨a2, rfl, rfl, rfl, w2⟩ := open_string Try.underlying9 (hval 2 9 v2 rfl rfl) h2
  clear hA0 hval0
  simp only [List.append_nil] at hW'
  refine (walk a0 a1 a2 w0 w1 w2 W).mono fun e W' ⟨he, hg⟩ => ?_
  subst he
  exact ⟨_, rfl, _, _, _, [], [], [], hW', trodAll_mk1 (shut_bool Try.underlying4 _), (trodAll_cons_mk (shut_int Try.underlying5 w0) (trodAll_cons_mk (shut_string Try.underlying9 w1) (trodAll_cons_mk (shut_string Try.underlying9 w2) trodAll_mk0))), rfl, hg.frame _, fun h => by cases h⟩

theorem over : Rows.fnTokenLenReadsAQuotedTextWholeRow.holds Try.pinned (OpenSpec.ofChange Rows.fnTokenLenReadsAQuotedTextWholeSpec) :=
  OpenClaim.holds_of_wide 4 Try.f4 rfl rfl rfl rfl rfl rfl rfl ⟨rfl, rfl, rfl, rfl, rfl⟩ rfl rfl rfl rfl rfl (by kernel_rfl) Try.func4 (by kernel_rfl)
    (of_decide_eq_true (by kernel_rfl)) (by unfold Func.isWrapper; first | (rw [if_pos (by decide +kernel)]; kernel_rfl) | (rw [if_neg (by decide +kernel)]; exact ⟨rfl, rfl⟩))
    (fun os started H enc _ => lifted os started H enc)

/-- ████ THE STATEMENT ████ -/
theorem proved : Rows.FnTokenLenReadsAQuotedTextWholeSaid :=
  over
#print axioms proved
end Go.Proofs.Qxb6619417a.fnTokenLenReadsAQuotedTextWhole
