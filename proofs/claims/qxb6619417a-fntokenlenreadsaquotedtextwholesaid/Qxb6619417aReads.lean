/-
  THE WALK of FnTokenLenReadsAQuotedTextWhole.
-/
import Derived.Test.Qxb6619417aTok
import Derived.Test.Qxb6619417aBytes
import Derived.Deep.RegionWith
namespace Go.Proofs.Qxb6619417a
open Go.RowKit
set_option linter.unusedVariables false
namespace Reads

theorem info5 : (Try.prog.info? 5).map (fun i => (i.zero, i.size, i.bytes)) = some (some (.int .u8 0), 1, 1) := by kernel_rfl

set_option maxHeartbeats 400000 in
theorem zz9_yes (q : Int) (a b : ByteArray) (w : World) (h : a.size + b.size ≤ 1048576) :
    Calls Try.prog 9 #[.int .u8 q, .string a, .string b] w fun e w' => e = .returned (.bool true) ∧ w' = w := by
  go_enter Try.func9, Try.ntmps9
  go_wp2
  go_ret
  exact ⟨rfl, rfl⟩
set_option maxHeartbeats 400000 in
theorem zz9_no (q : Int) (a b : ByteArray) (w : World) (ha : a.size ≤ 9223372036854775807) (hb : b.size ≤ 9223372036854775807) (h : ¬ a.size + b.size ≤ 1048576) :
    Calls Try.prog 9 #[.int .u8 q, .string a, .string b] w fun e w' => e = .returned (.bool false) ∧ w' = w := by
  go_enter Try.func9, Try.ntmps9
  go_wp2
  all_goals
    go_ret
    exact ⟨rfl, rfl⟩

/-- The text so far: the quote, and what is escaped of the first k bytes. -/
def txt (q : UInt8) (a : ByteArray) (k : Nat) : List UInt8 := q :: Pl.esc q (a.data.toList.take k)
theorem txt_len (q : UInt8) (a : ByteArray) (k : Nat) : 1 ≤ (txt q a k).length ∧ (txt q a k).length ≤ 1 + 2 * k := by
  unfold txt
  have := (Pl.esc_len q (a.data.toList.take k)).2
  have h2 : (a.data.toList.take k).length ≤ k := List.length_take_le _ _
  simp; omega
theorem txt_step (q : UInt8) (a : ByteArray) (k : Nat) (hk : k < a.size) : txt q a (k + 1) = txt q a k ++ (if a[k] = q ∨ a[k] = 92 then [92, a[k]] else [a[k]]) := by
  have e : a.data.toList.take (k + 1) = a.data.toList.take k ++ [a[k]] := by rw [List.take_succ_eq_append_getElem (by simpa using hk)]; rfl
  unfold txt
  rw [e, Pl.esc_snoc]
  simp

/-- What holds at each round's head. -/
structure Rel (w : World) (q : UInt8) (a : ByteArray) (k g cap n : Nat) (wr : World) : Prop where
  n : n = (txt q a k).length
  b : Byt wr 5 g cap (txt q a k)
  g : w.heap.size ≤ g
  bel : Below w.heap.size w wr

theorem beq_u8 {a b : UInt8} (h : ((a.toNat : Int) == (b.toNat : Int)) = true) : a = b := by
  simp only [beq_iff_eq] at h; exact UInt8.toNat_inj.1 (Int.ofNat_inj.1 h)
theorem beq_u8' {a b : UInt8} (h : ((a.toNat : Int) == (b.toNat : Int)) = false) : a ≠ b := by
  intro e; subst e; simp at h

theorem below_app {w wr w1 : World} {g : Nat} {o : Obj} (hb : Below w.heap.size w wr) (hg : w.heap.size ≤ g) (h : (wr.alloc o).grownBy w1 (some g)) : Below w.heap.size w w1 :=
  (hb.alloc hb.size o).grown h (by simp; have := hb.size; omega) (fun k e => by cases e; exact hg)

theorem ge_of {w wr : World} {g g1 : Nat} (hb : Below w.heap.size w wr) (hg : w.heap.size ≤ g) (h : g1 = g ∨ wr.heap.size + 1 ≤ g1) : w.heap.size ≤ g1 := by
  have := hb.size
  rcases h with h | h
  · omega
  · omega

theorem rel_plain {w wr w1 : World} {q : UInt8} {a : ByteArray} {k g cap n g1 cap1 : Nat} {o : Obj} (hk : k < a.size) (h : Rel w q a k g cap n wr) (hc1 : ((a[k].toNat : Int) == (q.toNat : Int)) = false) (hc2 : ((a[k].toNat : Int) == 92) = false)
    (hb : Byt w1 5 g1 cap1 (txt q a k ++ [a[k]])) (hgr : (wr.alloc o).grownBy w1 (some g)) (hg1 : g1 = g ∨ wr.heap.size + 1 ≤ g1) : Rel w q a (k + 1) g1 cap1 (n + 1) w1 := by
  have e : txt q a (k + 1) = txt q a k ++ [a[k]] := by
    rw [txt_step q a k hk, if_neg]
    rintro (h | h)
    · exact beq_u8' hc1 h
    · exact beq_u8' (b := 92) hc2 h
  exact ⟨by rw [e]; simp [← h.n], by rw [e]; exact hb, ge_of h.bel h.g hg1, below_app h.bel h.g hgr⟩
theorem rel_esc {w wr w1 w2 : World} {q : UInt8} {a : ByteArray} {k g cap n g1 g2 cap2 : Nat} {o o2 : Obj} (hk : k < a.size) (h : Rel w q a k g cap n wr) (hc : a[k] = q ∨ a[k] = 92)
    (hgr : (wr.alloc o).grownBy w1 (some g)) (hg1 : g1 = g ∨ wr.heap.size + 1 ≤ g1)
    (hb2 : Byt w2 5 g2 cap2 (txt q a k ++ [92, a[k]])) (hgr2 : (w1.alloc o2).grownBy w2 (some g1)) (hg2 : g2 = g1 ∨ w1.heap.size + 1 ≤ g2) : Rel w q a (k + 1) g2 cap2 (n + 1 + 1) w2 := by
  have e : txt q a (k + 1) = txt q a k ++ [92, a[k]] := by
    rw [txt_step q a k hk, if_pos hc]
  have b1 := below_app h.bel h.g hgr
  have l1 := ge_of h.bel h.g hg1
  exact ⟨by rw [e]; simp [← h.n], by rw [e]; exact hb2, ge_of b1 l1 hg2, below_app b1 l1 hgr2⟩

/-- ZZtokenLen at the text c :: r, c a quote. -/
theorem tok_list (c : UInt8) (r : List UInt8) (R : Nat) (hc : c = 39 ∨ c = 34 ∨ c = 96) (hlen : r.length ≤ 4194303) (hR : 1 + Pl.skip c r = R) (w : World) :
    Calls Try.prog 6 #[.string ⟨(c :: r).toArray⟩] w fun e w' => e = .returned (.int .i64 R) ∧ w' = w := by
  have hsz : (⟨(c :: r).toArray⟩ : ByteArray).size = r.length + 1 := by simp [ByteArray.size]
  have h0 : (⟨(c :: r).toArray⟩ : ByteArray)[0]'(by omega) = c := rfl
  refine Tok.zz_quoted ⟨(c :: r).toArray⟩ R w (by omega) (by omega) ?_ ?_
  · rw [h0]; exact hc
  · rw [h0]
    unfold Tok.At
    rw [hsz]
    simp only [List.drop_succ_cons, List.drop_zero]
    omega

theorem tok_whole (q : UInt8) (a1 : ByteArray) (k n : Nat) (rest : List UInt8) (hq : q = 39 ∨ q = 34 ∨ q = 96) (hk : k ≤ 524288) (hn : n = (txt q a1 k).length) (hrest : rest.length ≤ 524288) (w : World) :
    Calls Try.prog 6 #[.string ⟨((txt q a1 k ++ q :: rest).take (n + 1 + rest.length)).toArray⟩] w fun e w' => e = .returned (.int .i64 (n + 1 : Nat)) ∧ w' = w := by
  have hl := (txt_len q a1 k).2
  have e : (txt q a1 k ++ q :: rest).take (n + 1 + rest.length) = q :: (Pl.esc q (a1.data.toList.take k) ++ q :: rest) := by
    rw [List.take_of_length_le (by simp; omega)]; simp [txt]
  rw [e]
  have hq92 : q ≠ 92 := by rcases hq with h | h | h <;> rw [h] <;> decide
  have hn' : n = (Pl.esc q (a1.data.toList.take k)).length + 1 := by rw [hn]; simp [txt]
  refine tok_list q _ _ hq (by simp; omega) ?_ w
  rw [Pl.skip_esc_closed q hq92]; omega
theorem tok_cut (q : UInt8) (a1 : ByteArray) (k n : Nat) (rest : List UInt8) (hq : q = 39 ∨ q = 34 ∨ q = 96) (hk : k ≤ 524288) (hn : n = (txt q a1 k).length) (w : World) :
    Calls Try.prog 6 #[.string ⟨((txt q a1 k ++ q :: rest).take n).toArray⟩] w fun e w' => e = .returned (.int .i64 n) ∧ w' = w := by
  have hl := (txt_len q a1 k).2
  have e : (txt q a1 k ++ q :: rest).take n = q :: Pl.esc q (a1.data.toList.take k) := by
    rw [hn, List.take_left]; rfl
  rw [e]
  have hn' : n = (Pl.esc q (a1.data.toList.take k)).length + 1 := by rw [hn]; simp [txt]
  refine tok_list q _ _ hq (by omega) ?_ w
  rw [Pl.skip_esc_open]; omega

set_option maxHeartbeats 1000000 in
theorem walk_main (q : UInt8) (a1 a2 : ByteArray) (w : World) (hsum : a1.size + a2.size ≤ 1048576) (h1 : a1.size ≤ 524288) (h2 : a2.size ≤ 524288) (hq : q = 39 ∨ q = 34 ∨ q = 96) :
    Calls Try.prog 4 #[.int .u8 (q.toNat : Int), .string a1, .string a2] w fun e w' => e = .returned (.bool true) ∧ Below w.heap.size w w' := by
  have hq' : (((q.toNat : Int) != 39) = false ∨ (((q.toNat : Int) != 39) = true ∧ ((q.toNat : Int) != 34) = false) ∨ (((q.toNat : Int) != 39) = true ∧ ((q.toNat : Int) != 34) = true ∧ ((q.toNat : Int) != 96) = false)) := by
    rcases hq with h | h | h <;> rw [h] <;> decide
  obtain ⟨i0, hi, hz0, hz1, hz2⟩ := info_parts info5
  rcases hq' with hA | ⟨hA, hB⟩ | ⟨hA, hB, hC⟩
  all_goals
    go_enter Try.func4, Try.ntmps4
    go_wp2_with (first
      | (go_at_call 9; refine (zz9_yes _ _ _ _ (by omega)).mono ?_; rintro e w ⟨rfl, rfl⟩)
      | (at_make; refine wpList_make_own _ rfl _ _ 27 rfl 0 5 i0 (.int .u8 0) 1 Try.underlying27 hi hz0 hz1 _ _ _ (2 * a1.size + 2 + a2.size) rfl rfl (by omega) (by rw [hz2]; omega) (by unfold maxLen; omega) (Nat.zero_le _) ?_))
    intro w0 hown0 hgrow0
    have hb0 : Byt w0 5 w.heap.size (2 * a1.size + 2 + a2.size) [] := hown0
    have hbel0 : Below w.heap.size w w0 := (Below.refl _ _).grown hgrow0 (Nat.le_refl _) (fun k h => by cases h)
    clear hown0 hgrow0
    have hbs0 := hbel0.size
    go_wp2_with (at_builtin; refine wpList_append_byt _ rfl _ _ 27 rfl 5 i0 Try.underlying27 hi hz0 hz1 hz2 w.heap.size (2 * a1.size + 2 + a2.size) 0 [] rfl rfl (hb0.alloc _) _ 1 1 [q] rfl rfl (one_new _ _ _ _ rfl) (by simp) ?_)
    intro g1 cap1 w1 hb1 hgr1 hg1
    have hR1 : Rel w q a1 0 g1 cap1 1 w1 := ⟨rfl, hb1, ge_of hbel0 (Nat.le_refl _) hg1, below_app hbel0 (Nat.le_refl _) hgr1⟩
    clear hb1 hgr1 hg1 hb0 hbel0 hbs0
    go_wp2
    go_loopw [7, 8] (fun v i wr => ∃ k g cap n : Nat, k ≤ a1.size ∧ i = .int .i64 k ∧ v = .slice (some ⟨g, 0, none⟩) n cap ∧ Rel w q a1 k g cap n wr) (fun _ i _ => a1.size - (intOf i).toNat)
    case atStart => exact ⟨0, g1, cap1, 1, Nat.zero_le _, rfl, rfl, hR1⟩
    case round =>
      obtain ⟨k, g, cap, n, hk, rfl, rfl, hR⟩ := hrel
      have hl := txt_len q a1 k
      by_cases hlt : k < a1.size
      · cases hc1 : ((a1[k].toNat : Int) == (q.toNat : Int))
        · cases hc2 : ((a1[k].toNat : Int) == 92)
          · go_wp2_with (at_builtin; refine wpList_append_byt _ rfl _ _ 27 rfl 5 i0 Try.underlying27 hi hz0 hz1 hz2 g cap n (txt q a1 k) rfl hR.n (hR.b.alloc _) _ 1 1 [a1[k]] rfl rfl (one_new _ _ _ _ rfl) (by simp; omega) ?_)
            intro g1 cap1 w1 hb1 hgr1 hg1
            have hR1 := rel_plain hlt hR hc1 hc2 hb1 hgr1 hg1
            clear hb1 hgr1 hg1 hR
            go_wp2
            go_roundw
            case rel => exact ⟨k + 1, g1, cap1, n + 1, by omega, by go_num, rfl, hR1⟩
            case measure => simp [intOf]; omega
          · go_wp2_with (at_builtin; refine wpList_append_byt _ rfl (.tmp 63) (.tmp 64) 27 rfl 5 i0 Try.underlying27 hi hz0 hz1 hz2 g cap n (txt q a1 k) rfl hR.n (hR.b.alloc _) _ 1 1 [92] rfl rfl (one_new _ _ 92 _ rfl) (by simp; omega) ?_)
            intro g1 cap1 w1 hb1 hgr1 hg1
            go_wp2_with (at_builtin; refine wpList_append_byt _ rfl (.tmp 66) (.tmp 68) 27 rfl 5 i0 Try.underlying27 hi hz0 hz1 hz2 g1 cap1 (n + 1) (txt q a1 k ++ [92]) rfl (by simp [← hR.n]) (hb1.alloc _) _ 1 1 [a1[k]] rfl rfl (one_new _ _ _ _ rfl) (by simp; omega) ?_)
            intro g2 cap2 w2 hb2 hgr2 hg2
            have hR2 := rel_esc hlt hR (Or.inr (beq_u8 (b := 92) hc2)) hgr1 hg1 hb2 hgr2 hg2
            clear hb1 hgr1 hg1 hR hb2 hgr2 hg2
            go_wp2
            go_roundw
            case rel => exact ⟨k + 1, g2, cap2, n + 1 + 1, by omega, by go_num, rfl, hR2⟩
            case measure => simp [intOf]; omega
        · go_wp2_with (at_builtin; refine wpList_append_byt _ rfl (.tmp 63) (.tmp 64) 27 rfl 5 i0 Try.underlying27 hi hz0 hz1 hz2 g cap n (txt q a1 k) rfl hR.n (hR.b.alloc _) _ 1 1 [92] rfl rfl (one_new _ _ 92 _ rfl) (by simp; omega) ?_)
          intro g1 cap1 w1 hb1 hgr1 hg1
          go_wp2_with (at_builtin; refine wpList_append_byt _ rfl (.tmp 66) (.tmp 68) 27 rfl 5 i0 Try.underlying27 hi hz0 hz1 hz2 g1 cap1 (n + 1) (txt q a1 k ++ [92]) rfl (by simp [← hR.n]) (hb1.alloc _) _ 1 1 [a1[k]] rfl rfl (one_new _ _ _ _ rfl) (by simp; omega) ?_)
          intro g2 cap2 w2 hb2 hgr2 hg2
          have hR2 := rel_esc hlt hR (Or.inl (beq_u8 hc1)) hgr1 hg1 hb2 hgr2 hg2
          clear hb1 hgr1 hg1 hR hb2 hgr2 hg2
          go_wp2
          go_roundw
          case rel => exact ⟨k + 1, g2, cap2, n + 1 + 1, by omega, by go_num, rfl, hR2⟩
          case measure => simp [intOf]; omega
      · go_wp2_with (at_builtin; refine wpList_append_byt _ rfl _ _ 27 rfl 5 i0 Try.underlying27 hi hz0 hz1 hz2 g cap n (txt q a1 k) rfl hR.n (hR.b.alloc _) _ 1 1 [q] rfl rfl (one_new _ _ _ _ rfl) (by simp; omega) ?_)
        intro g1 cap1 w1 hb1 hgr1 hg1
        have gg1 := ge_of hR.bel hR.g hg1
        have bb1 := below_app hR.bel hR.g hgr1
        have HN : Hid (n = (txt q a1 k).length) := hR.n
        clear hR hgr1 hg1
        go_wp2_with (at_builtin; refine wpList_append_byt_string _ rfl _ _ 27 9 rfl 5 i0 Try.underlying27 Try.underlying9 hi hz0 hz1 hz2 g1 cap1 (n + 1) (txt q a1 k ++ [q]) rfl (by simp [← HN.out]) hb1 a2 rfl (by simp; omega) ?_)
        intro g2 cap2 w2 hb2 hgr2 hg2
        have bb2 := bb1.grown hgr2 bb1.size (fun k e => by cases e; exact gg1)
        clear hgr2 hb1 hg2 bb1
        have hroom := hb2.room
        have hnl := HN.out
        have cv1 := run_string_byt (P := Try.prog) w2 27 9 5 Try.underlying27 Try.underlying5 Try.underlying9 g2 cap2 _ hb2 (n + 1 + a2.size) cap2 (by simp; omega)
        have cv2 := run_string_byt (P := Try.prog) w2 27 9 5 Try.underlying27 Try.underlying5 Try.underlying9 g2 cap2 _ hb2 n cap2 (by simp; omega)
        have t1 : ∀ w, Calls Try.prog 6 #[.string ⟨((txt q a1 k ++ q :: a2.data.toList).take (n + 1 + a2.size)).toArray⟩] w fun e w' => e = .returned (.int .i64 (n + 1 : Nat)) ∧ w' = w := fun w => by
          have := tok_whole q a1 k n a2.data.toList hq (by omega) HN.out (by simp; omega) w
          have e : a2.data.toList.length = a2.size := by simp
          rw [e] at this
          exact this
        have t2 : ∀ w, Calls Try.prog 6 #[.string ⟨((txt q a1 k ++ q :: a2.data.toList).take n).toArray⟩] w fun e w' => e = .returned (.int .i64 n) ∧ w' = w := fun w => tok_cut q a1 k n a2.data.toList hq (by omega) HN.out w
        have hncap : n ≤ cap2 := by have := hroom.1; simp at this; omega
        have hcap := hroom.2
        have hnn : n ≤ 2000000 := by omega
        clear hnl HN hroom hb2 hl
        generalize (⟨((txt q a1 k ++ q :: a2.data.toList).take (n + 1 + a2.size)).toArray⟩ : ByteArray) = S1 at cv1 t1
        generalize (⟨((txt q a1 k ++ q :: a2.data.toList).take n).toArray⟩ : ByteArray) = S2 at cv2 t2
        have T1 : Hid _ := t1
        have T2 : Hid _ := t2
        clear t1 t2
        go_wp2_with fail
        refine (T1.out _).mono ?_
        rintro e w2 ⟨rfl, rfl⟩
        go_wp2_with fail
        refine (T2.out _).mono ?_
        rintro e w2 ⟨rfl, rfl⟩
        go_wp2
        go_ret
        exact ⟨rfl, bb2⟩
end Reads
end Go.Proofs.Qxb6619417a
