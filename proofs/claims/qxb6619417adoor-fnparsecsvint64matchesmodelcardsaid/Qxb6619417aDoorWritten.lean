/-
  THE WALK of FnParseCSVInt64ReadsEveryInt64Written.
-/
import Derived.Test.Qxb6619417aDoorDec
namespace Go.Proofs.Qxb6619417aDoor
open Go.RowKit
set_option linter.unusedVariables false
set_option linter.unusedSimpArgs false
namespace Written
open Csv Dec

theorem info5 : (Tryd.prog.info? 5).map (fun i => (i.zero, i.size, i.bytes)) = some (some (.int .u8 0), 1, 1) := by kernel_rfl

/-- What csvDecimal hands back, as the law sees it. -/
def Txt (w : World) (x : Int) (junk : UInt8) (e : Ending) (w' : World) : Prop :=
  ∃ g cap n L, e = .returned (.slice (some ⟨g, 0, none⟩) n cap) ∧ n = L.length ∧ Byt w' 5 g cap L ∧ w.heap.size ≤ g ∧ Below w.heap.size w w' ∧ L.length ≤ 70000 ∧ 1 ≤ L.length ∧ Pl.ans L = (x, true) ∧ (¬ (48 ≤ junk.toNat ∧ junk.toNat ≤ 57) → Pl.ans (L ++ [junk]) = (0, false))

theorem fin_neg {X : Nat} (h : X ≤ 9223372036854775808) : Pl.fin true (.ok X) = (-(X : Int), true) := by
  simp only [Pl.fin]; rw [if_pos trivial, if_neg (by omega)]
theorem fin_pos {X : Nat} (h : X < 9223372036854775808) : Pl.fin false (.ok X) = ((X : Int), true) := by
  simp only [Pl.fin]; rw [if_neg (by decide), if_neg (by omega)]
theorem fin_bad (b : Bool) : Pl.fin b (Lib.parseMag []) = (0, false) := rfl

theorem txt_of {w w' : World} {sg : List UInt8} {z X : Nat} {e : Ending} {x : Int} {junk : UInt8} (h : Out w sg z X e w') (hz : z ≤ 65536)
    (hs : (sg = [45] ∧ x = -(X : Int) ∧ X ≤ 9223372036854775808) ∨ (sg = [43] ∧ x = (X : Int) ∧ X < 9223372036854775808) ∨ (sg = [] ∧ x = (X : Int) ∧ X < 9223372036854775808)) : Txt w x junk e w' := by
  obtain ⟨g, cap, n, ds, he, hn, hb, hg, hbel, hdig, h1, h2, hv⟩ := h
  have hD : Pl.AllDig (List.replicate z 48 ++ ds) := Pl.alldig_zeros z ds hdig
  have hDv : Pl.dval (List.replicate z 48 ++ ds) = X := by rw [Pl.dval_zeros]; exact hv
  have hDl : 1 ≤ (List.replicate z 48 ++ ds).length ∧ (List.replicate z 48 ++ ds).length ≤ 65556 := by simp; omega
  refine ⟨g, cap, n, _, he, hn, hb, hg, hbel, ?_, ?_, ?_, ?_⟩
  · rcases hs with ⟨rfl, _⟩ | ⟨rfl, _⟩ | ⟨rfl, _⟩ <;> simp at hDl ⊢ <;> omega
  · rcases hs with ⟨rfl, _⟩ | ⟨rfl, _⟩ | ⟨rfl, _⟩ <;> simp at hDl ⊢ <;> omega
  · generalize List.replicate z 48 ++ ds = D at *
    have hne : D ≠ [] := by intro e; subst e; simp at hDl
    have hX : Pl.dval D < 18446744073709551616 := by rcases hs with ⟨_, _, _⟩ | ⟨_, _, _⟩ | ⟨_, _, _⟩ <;> omega
    have hm := Pl.mag_digits D hne hD hX
    rw [hDv] at hm
    rcases hs with ⟨rfl, rfl, hs⟩ | ⟨rfl, rfl, hs⟩ | ⟨rfl, rfl, hs⟩
    · rw [List.singleton_append, Pl.ans_minus, hm]; exact fin_neg hs
    · rw [List.singleton_append, Pl.ans_plus, hm]; exact fin_pos hs
    · rcases D with _ | ⟨c, r⟩
      · exact absurd rfl hne
      · rw [List.nil_append, Pl.ans_dig c r (hD c (by simp)), hm]; exact fin_pos hs
  · intro hj
    generalize List.replicate z 48 ++ ds = D at *
    have hX : Pl.dval D < 18446744073709551616 := by rcases hs with ⟨_, _, _⟩ | ⟨_, _, _⟩ | ⟨_, _, _⟩ <;> omega
    have hm := Pl.mag_junk D junk hD hX hj
    rcases hs with ⟨rfl, rfl, hs⟩ | ⟨rfl, rfl, hs⟩ | ⟨rfl, rfl, hs⟩
    · rw [List.append_assoc, List.singleton_append, Pl.ans_minus, hm]; exact fin_bad _
    · rw [List.append_assoc, List.singleton_append, Pl.ans_plus, hm]; exact fin_bad _
    · rcases D with _ | ⟨c, r⟩
      · simp at hDl
      · rw [List.nil_append, List.cons_append, Pl.ans_dig c _ (hD c (by simp)), ← List.cons_append, hm]; exact fin_bad _

theorem dec_txt (x : Int) (plus : Bool) (z : Nat) (junk : UInt8) (w : World) (hz : z ≤ 65536) (hx : -9223372036854775808 ≤ x) (hx2 : x ≤ 9223372036854775807) :
    Calls Tryd.prog 10 #[.int .i64 x, .bool plus, .int .i64 z] w fun e w' => Txt w x junk e w' := by
  by_cases hn : x < 0
  · exact (dec_minus x plus (-x).toNat z w hz hn hx (by omega) (by omega)).mono fun e w' h => txt_of h hz (Or.inl ⟨rfl, by omega, by omega⟩)
  · cases plus
    · exact (dec_plain x x.toNat z w hz (by omega) hx2 (by omega) (by omega)).mono fun e w' h => txt_of h hz (Or.inr (Or.inr ⟨rfl, by omega, by omega⟩))
    · exact (dec_plus x x.toNat z w hz (by omega) hx2 (by omega) (by omega)).mono fun e w' h => txt_of h hz (Or.inr (Or.inl ⟨rfl, by omega, by omega⟩))

/-- ZZparseCSVInt64 at a row whose answer is known. -/
theorem zz_at {g cap n : Nat} {L : List UInt8} {V : Int} {ok : Bool} {w : World} (hb : Byt w 5 g cap L) (hn : n = L.length) (hl : L.length ≤ 4194304) (he : Errs w) (ha : Pl.ans L = (V, ok)) :
    Calls Tryd.prog 8 #[.slice (some ⟨g, 0, none⟩) n cap] w fun e w' => e = .returned (.tuple #[.int .i64 V, .bool ok]) ∧ Below w.heap.size w w' := by
  subst hn
  have := csv_any g cap L w hb hl he
  rw [ha] at this
  exact zz_csv this

set_option maxRecDepth 100000 in
set_option maxHeartbeats 1000000 in
theorem walk_main (x : Int) (plus : Bool) (z : Nat) (junk : UInt8) (w : World) (he : Errs w) (hz : z ≤ 65536) (hx : -9223372036854775808 ≤ x) (hx2 : x ≤ 9223372036854775807) :
    Calls Tryd.prog 4 #[.int .i64 x, .bool plus, .int .i64 z, .int .u8 (junk.toNat : Int)] w fun e w' => e = .returned (.bool true) ∧ Below w.heap.size w w' := by
  have hdec := hid (dec_txt x plus z junk w hz hx hx2)
  have hj0 : (0 : Int) ≤ (junk.toNat : Int) ∧ (junk.toNat : Int) ≤ 255 := by have := junk.toNat_lt; omega
  clear hx hx2
  obtain ⟨i0, hi, hz0, hz1, hz2⟩ := info_parts info5
  go_enter Tryd.func4, Tryd.ntmps4
  go_wp2_with (go_at_call 10; refine hdec.out.mono ?_)
  rintro e w1 ⟨g, cap, n, L, rfl, hn, hb, hg, hbel, hl, hl1, ha, hbad⟩
  have hln : n ≤ 70000 ∧ 1 ≤ n := by omega
  have HN := hid hn
  have HA := hid ha
  have HB := hid hbad
  clear hn ha hbad hl hl1 hdec
  have he1 := errs_below he hbel
  go_wp2_with (go_at_call 8; refine (zz_at hb HN.out (by have := HN.out; omega) he1 HA.out).mono ?_)
  rintro e w2 ⟨rfl, hbel2⟩
  have hb2 := hb.below hbel2 hb.lt
  have bel2 := hbel.trans (hbel2.mono hbel.size)
  have he2 := errs_below he1 hbel2
  clear hb hbel hbel2 he1
  by_cases hjd : 48 ≤ (junk.toNat : Int) ∧ (junk.toNat : Int) ≤ 57
  · obtain ⟨j1, j2⟩ := hjd
    go_wp2
    go_ret
    exact ⟨rfl, bel2⟩
  · have hab := hid (HB.out (by omega))
    have hsz := bel2.size
    have hjj : (junk.toNat : Int) < 48 ∨ 57 < (junk.toNat : Int) := by omega
    clear hjd
    rcases hjj with hj | hj
    all_goals
      go_wp2_with (at_make; refine wpList_make_own _ rfl _ _ 22 rfl 0 5 i0 (.int .u8 0) 1 Tryd.underlying22 hi hz0 hz1 _ _ _ (n + 1) rfl rfl (by omega) (by rw [hz2]; omega) (by unfold maxLen; omega) (Nat.zero_le _) ?_)
      intro w3 hown3 hgr3
      have b3 : Byt w3 5 w2.heap.size (n + 1) [] := hown3
      have hb3 := hb2.kept hgr3 (by simp)
      have bel3 := bel2.grown hgr3 hsz (fun k e => by cases e)
      have hs3 := hgr3.size
      clear hown3 hgr3 bel2
      go_wp2_with (at_builtin; refine wpList_append_byt _ rfl (.tmp 47) (.tmp 48) 22 rfl 5 i0 Tryd.underlying22 hi hz0 hz1 hz2 _ _ 0 [] rfl rfl b3 _ cap n L rfl HN.out (fun j hj => by rw [Addr.add_lit, Nat.zero_add]; exact hb3.cell j hj) (by have := HN.out; simp; omega) ?_)
      intro g4 cap4 w4 b4 hgr4 hg4
      have bel4 := bel3.grown hgr4 (by omega) (fun k e => by cases e; omega)
      have hg4' : w.heap.size ≤ g4 := by omega
      have he4 := errs_below he bel4
      clear b3 hb3 bel3 hgr4 he2 hb2
      go_wp2_with (at_builtin; refine wpList_append_byt _ rfl (.tmp 50) (.tmp 52) 22 rfl 5 i0 Tryd.underlying22 hi hz0 hz1 hz2 g4 cap4 n L rfl HN.out (b4.alloc _) _ 1 1 [junk] rfl rfl (one_new _ _ _ _ rfl) (by have := HN.out; simp; omega) ?_)
      intro g5 cap5 w5 b5 hgr5 hg5
      have bel5 := (bel4.alloc bel4.size _).grown hgr5 (by simp; have := bel4.size; omega) (fun k e => by cases e; omega)
      have he5 := errs_below he bel5
      clear hgr5 hg5 b4 he4 bel4
      go_wp2_with (go_at_call 8; refine (zz_at b5 (by have := HN.out; simp; omega) (by have := HN.out; simp; omega) he5 hab.out).mono ?_)
      rintro e w6 ⟨rfl, hbel6⟩
      have bel6 := bel5.trans (hbel6.mono bel5.size)
      go_wp2
      go_ret
      exact ⟨rfl, bel6⟩
end Written
end Go.Proofs.Qxb6619417aDoor
