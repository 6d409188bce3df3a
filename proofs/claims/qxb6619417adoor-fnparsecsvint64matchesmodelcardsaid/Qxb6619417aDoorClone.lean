/-
  'c := make([]byte, len(b)); copy(c, b)': the copy, as a law for the walk.
-/
import Derived.Test.Qxb6619417aDoorBytes
import Derived.Laws.CopyRow
namespace Go.Proofs.Qxb6619417aDoor
open Go.RowKit
set_option linter.unusedVariables false

section
variable {P : Program} (w : World)
/-- 'c := make([]byte, len(b)); copy(c, b)': the copy. -/
theorem run_clone (t ty e : TypeId) (ht : P.underlying t = some (.slice e)) (hs : (P.info? e).map (·.size) = some 1) (g n : Nat) (xs : List Value) (hown : w.ownsRow 0 e 1 (.slice (some ⟨g, 0, none⟩) n n) n xs)
    (ad : Addr) (scap : Nat) (l : List UInt8) (hl : l.length = n) (hsrc : ∀ j (hj : j < l.length), w.cell? (ad.add j) = some (.int .u8 (l[j].toNat : Int))) :
    ∃ w1, (Builtin.copy_ #[t, t] ty #[.slice (some ⟨g, 0, none⟩) n n, .slice (some ad) n scap]).run P w = .ok (.int .i64 n) w1 ∧ Byt w1 e g n l ∧ w.grownBy w1 (some g) := by
  rcases hown.2 with ⟨h', _⟩ | ⟨g', cap', cur, h', _, hg, h1, h2, h3, h4⟩
  · simp at h'
  · simp only [Value.slice.injEq, Option.some.injEq, Addr.mk.injEq, and_true, true_and] at h'
    obtain ⟨rfl, rfl⟩ := h'
    have hbl : (bc l).length = n := by rw [bc_length]; exact hl
    have hr := run_copy_row (P := P) w t t ty e g 0 n n ad n scap cur e (bc l) ht hs hg (by rw [hbl]; simp) (fun j v hv => by
      have hj : j < l.length := by have := (List.getElem?_eq_some_iff.1 hv).1; rwa [bc_length] at this
      rw [bc_at l j hj] at hv
      rw [hsrc j hj]; exact hv) (by rw [hbl]; omega) (bc_one l)
    have e1 : (cur.toList.take 0 ++ bc l ++ cur.toList.drop (0 + (bc l).length)).toArray = (bc l).toArray := by
      rw [List.take_zero, List.nil_append, List.drop_eq_nil_of_le (by rw [hbl]; simp; omega), List.append_nil]
    rw [e1, hbl] at hr
    refine ⟨_, hr, ?_, ⟨rfl, rfl, rfl, by simp, fun k _ hk => setRow_other w g k _ (fun e => hk (by simp [e]))⟩⟩
    refine ⟨by simp [bc_length], .inr ⟨g, n, (bc l).toArray, by rw [hl], Nat.zero_le _, setRow_heap w g cur _ e _ hg, by omega, h2, by simp [hbl], ?_⟩⟩
    rw [List.take_of_length_le (by simp [bc_length])]
end
end Go.Proofs.Qxb6619417aDoor
