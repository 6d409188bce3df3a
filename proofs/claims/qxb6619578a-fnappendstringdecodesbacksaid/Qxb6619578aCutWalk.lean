/-
  THE WALK of FnAppendStringCutAndPrefix: the calls, the three loops.
-/
import Derived.Test.Qxb6619578aCut
namespace Go.Proofs.Qxb6619578a
open Go.RowKit
set_option linter.unusedVariables false
set_option linter.unusedSimpArgs false
namespace Cut
open App Clone

/-- A row of the call's own, as a source. -/
theorem src_of {w : World} {g c : Nat} {l : List UInt8} (h : Byt w 5 g c l) : ∀ j (hj : j < l.length), w.cell? ((⟨g, 0, none⟩ : Addr).add j) = some (.int .u8 (l[j].toNat : Int)) := by
  intro j hj
  rw [Addr.add_lit, Nat.zero_add]
  exact h.cell j hj
theorem len_quo {n : Nat} {s : ByteArray} (h : Len n ([] ++ Pl.quo s.data.toList)) : n = (Pl.quo s.data.toList).length := by
  unfold Len at h; simpa using h
theorem len_whole {n nW : Nat} {l : List UInt8} {s1 s2 : ByteArray} (hl : Len n l) (h : Len nW (l ++ Pl.quo (s1 ++ s2).data.toList)) : nW = n + (Pl.enc s1.data.toList).length + (Pl.enc s2.data.toList).length + 2 := by
  unfold Len at h hl
  rw [h, hl]
  simp [Pl.quo, Pl.enc_append]
  omega

set_option maxRecDepth 100000 in
set_option maxHeartbeats 4000000 in
theorem walk_row (x : Addr) (n cap : Nat) (l : List UInt8) (s1 s2 : ByteArray) (w : World) (hl : Len n l) (hx : ∀ j (hj : j < l.length), w.cell? (x.add j) = some (.int .u8 (l[j].toNat : Int))) (hsum : n + s1.size + s2.size ≤ 1048576) (hnb : n ≤ 65536) (h1 : s1.size ≤ 65536) (h2 : s2.size ≤ 65536) :
    Calls Try.prog 6 #[.slice (some x) n cap, .string s1, .string s2] w fun e w' => e = .returned (.bool true) ∧ Below w.heap.size w w' := by
  have hcs : (s1 ++ s2).size ≤ 1048576 := by simp; omega
  have f1 : decide ((65536 : Int) < (s1.size : Int)) = false := by simp; omega
  have f2 : decide ((65536 : Int) < (s2.size : Int)) = false := by simp; omega
  have f3 : decide ((65536 : Int) < (n : Int)) = false := by simp; omega
  have hll : l.length ≤ 1048576 := by unfold Len at hl; omega
  have HX := hid hx
  clear hx
  go_enter Try.func6, Try.ntmps6
  go_wp2_with (first
    | (go_at_call 20; refine (zz20_yes _ _ _ _ _ _ (by omega)).mono ?_; rintro e w ⟨rfl, rfl⟩)
    | (go_at_call 17; refine (clone_row x n cap l _ (by omega) hl HX.out).mono ?_))
  rintro e w1 ⟨rfl, b1, g1⟩
  go_wp2_with (go_at_call 17; refine (clone_row ⟨w.heap.size, 0, none⟩ n n l _ (by omega) hl (src_of b1)).mono ?_)
  rintro e w2 ⟨rfl, b2, g2⟩
  have b1' := b1.kept g2 (by simp)
  have hne : w.heap.size ≠ w1.heap.size := by have := b1.lt; omega
  have bel2 : Below w.heap.size w w2 := ((Below.refl _ _).grown g1 (Nat.le_refl _) (fun k e => by cases e)).grown g2 g1.size (fun k e => by cases e)
  have hs12 := g1.size
  clear g1 g2 b1
  go_wp2_with (go_at_call 18; refine (zz_app (app_byt w.heap.size n n l (s1 ++ s2) _ b1' hl hll hcs)).mono ?_)
  rintro e w3 ⟨gW, cW, nW, rfl, hnW, bW, fW⟩
  have b2' := b2.kept fW.gr (by intro e; injection e with e; omega)
  have bel3 : Below w.heap.size w w3 := bel2.grown fW.gr bel2.size (fun k e => by cases e; exact Nat.le_refl _)
  clear b2 b1' fW bel2
  go_wp2_with (go_at_call 18; refine (zz_app (app_nil s1 _ (by omega))).mono ?_)
  rintro e w4 ⟨gX, cX, nX, rfl, hnX, bX, fX⟩
  have bW4 := bW.kept fX.gr (by simp)
  have b4 := b2'.kept fX.gr (by simp)
  have bel4 : Below w.heap.size w w4 := bel3.grown fX.gr bel3.size (fun k e => by cases e)
  clear bW fX bel3 b2'
  go_wp2_with (go_at_call 18; refine (zz_app (app_nil s2 _ (by omega))).mono ?_)
  rintro e w5 ⟨gY, cY, nY, rfl, hnY, bY, fY⟩
  have hS : S4 w l s1.data.toList s2.data.toList w1.heap.size n gW cW gX cX gY cY w5 := ⟨bel4.grown fY.gr bel4.size (fun k e => by cases e), Or.inr (b4.kept fY.gr (by simp)), by have := bW4.kept fY.gr (by simp); simpa using this, by have := bX.kept fY.gr (by simp); simpa using this, by simpa using bY⟩
  have HnW := hid (len_whole hl hnW)
  have HnX := hid (len_quo hnX)
  have HnY := hid (len_quo hnY)
  have l1 := Pl.enc_len s1.data.toList
  have l2 := Pl.enc_len s2.data.toList
  rw [size_list] at l1 l2
  have q1 := quo_len s1.data.toList
  have q2 := quo_len s2.data.toList
  have a1 : s1.size + 2 ≤ nX ∧ nX ≤ 400000 := by have := HnX.out; omega
  have a2 : s2.size + 2 ≤ nY ∧ nY ≤ 400000 := by have := HnY.out; omega
  have a3 : nW + 2 = n + nX + nY := by have := HnX.out; have := HnY.out; have := HnW.out; omega
  have A3 := hid a3
  have a4 : nW ≤ 1000000 := by omega
  have a8 : n ≤ nW := by omega
  have a5 : ((nW : Int) != (n : Int) + (nX : Int) - 1 + (nY : Int) - 1) = false := by rw [bne_eq_false_iff_eq]; omega
  have a6 : decide ((nX : Int) < (s1.size : Int) + 2) = false := by simp; omega
  have a7 : decide ((nY : Int) < (s2.size : Int) + 2) = false := by simp; omega
  have cx0 := quo_first hS.X
  have cx1 := quo_last hS.X (nX - 1) (by have := HnX.out; omega)
  have cy0 := quo_first hS.Y
  have cy1 := quo_last hS.Y (nY - 1) (by have := HnY.out; omega)
  clear bW4 bX bY fY bel4 hnW hnX hnY l1 l2 q1 q2 a3 b4
  go_wp2
  clear cx0 cx1 cy0 cy1
  go_loopw [12, 13] (fun p i wr => ∃ k : Nat, k ≤ n ∧ p = .int .i64 k ∧ i = .int .i64 k ∧ S4 w l s1.data.toList s2.data.toList w1.heap.size n gW cW gX cX gY cY wr) (fun _ i _ => n - (intOf i).toNat)
  case atStart => exact ⟨0, Nat.zero_le _, rfl, rfl, hS⟩
  case round =>
    obtain ⟨k, hk, rfl, rfl, hS1⟩ := hrel
    by_cases hlt : k < n
    · obtain ⟨v, c1, c2⟩ := same1 hS1 k (by unfold Len at hl; omega)
      have i1 : (k : Int) < (nW : Int) := by omega
      have i2 : (k : Int) < (n : Int) := by omega
      go_wp2
      go_region
      all_goals
        go_wp2
        go_roundw
        case rel => exact ⟨k + 1, by omega, by go_num, by go_num, hS1.drew⟩
        case measure => simp [intOf]; omega
    · have hke : n = k := by omega
      subst hke
      clear hS
      go_wp2
      go_loopw [12, 14] (fun p i wr => ∃ k pp : Nat, k + 1 ≤ nX ∧ p = .int .i64 pp ∧ i = .int .i64 k ∧ Hid (pp = n + k) ∧ S4 w l s1.data.toList s2.data.toList w1.heap.size n gW cW gX cX gY cY wr) (fun _ i _ => nX - (intOf i).toNat)
      case atStart => exact ⟨0, n, by omega, rfl, rfl, hid rfl, hS1⟩
      case round =>
        obtain ⟨k, pp, hk2, rfl, rfl, hpp, hS2⟩ := hrel
        have hpb : pp + 1 ≤ nW := by have := hpp.out; have := A3.out; omega
        by_cases hlt2 : k + 1 < nX
        · obtain ⟨v, c1, c2⟩ := same2 hS2 k pp (by have := HnX.out; omega) (by have := hpp.out; unfold Len at hl; omega)
          have i1 : (pp : Int) < (nW : Int) := by omega
          have i2 : (k : Int) < (nX : Int) := by omega
          have i3 : (k : Int) < (nX : Int) - 1 := by omega
          have hpp' : Hid (pp + 1 = n + (k + 1)) := hid (by have := hpp.out; omega)
          go_wp2
          go_region
          all_goals
            go_wp2
            go_roundw
            case rel => exact ⟨k + 1, pp + 1, by omega, by go_num, by go_num, hpp', hS2.drew⟩
            case measure => simp [intOf]; omega
        · have hpe : Hid (pp + 1 = n + (nX - 1) + 1) := hid (by have := hpp.out; omega)
          clear hS1 hpp
          go_wp2
          go_loopw [12, 15] (fun p i wr => ∃ k q : Nat, 1 ≤ k ∧ k ≤ nY ∧ p = .int .i64 q ∧ i = .int .i64 k ∧ Hid (q + 1 = n + (nX - 1) + k) ∧ S4 w l s1.data.toList s2.data.toList w1.heap.size n gW cW gX cX gY cY wr) (fun _ i _ => nY - (intOf i).toNat)
          case atStart => exact ⟨1, pp, Nat.le_refl _, by omega, rfl, rfl, hpe, hS2⟩
          case round =>
            obtain ⟨k3, q, hk31, hk32, rfl, rfl, hq, hS3⟩ := hrel
            have hqb : q ≤ nW := by have := hq.out; have := A3.out; omega
            by_cases hlt3 : k3 < nY
            · obtain ⟨v, c1, c2⟩ := same3 hS3 k3 q hk31 (by have := HnY.out; omega) (by have := hq.out; have := HnX.out; unfold Len at hl; omega)
              have i1 : (q : Int) < (nW : Int) := by have := hq.out; have := A3.out; omega
              have i2 : (k3 : Int) < (nY : Int) := by omega
              have hq' : Hid (q + 1 + 1 = n + (nX - 1) + (k3 + 1)) := hid (by have := hq.out; omega)
              go_wp2
              go_region
              all_goals
                go_wp2
                go_roundw
                case rel => exact ⟨k3 + 1, q + 1, by omega, by omega, by go_num, by go_num, hq', hS3.drew⟩
                case measure => simp [intOf]; omega
            · have hbel := hS3.bel
              go_wp2
              go_ret
              exact ⟨rfl, hbel⟩

set_option maxRecDepth 100000 in
set_option maxHeartbeats 4000000 in
theorem walk_nil (s1 s2 : ByteArray) (w : World) (hsum : s1.size + s2.size ≤ 1048576) (h1 : s1.size ≤ 65536) (h2 : s2.size ≤ 65536) :
    Calls Try.prog 6 #[.slice none 0 0, .string s1, .string s2] w fun e w' => e = .returned (.bool true) ∧ Below w.heap.size w w' := by
  have hcs : (s1 ++ s2).size ≤ 1048576 := by simp; omega
  have f1 : decide ((65536 : Int) < (s1.size : Int)) = false := by simp; omega
  have f2 : decide ((65536 : Int) < (s2.size : Int)) = false := by simp; omega
  obtain ⟨n, hn⟩ : ∃ n : Nat, n = 0 := ⟨0, rfl⟩
  have hl : Len n ([] : List UInt8) := hn
  go_enter Try.func6, Try.ntmps6
  go_wp2_with (first
    | (go_at_call 20; refine (zz20_yes _ _ _ _ _ _ (by omega)).mono ?_; rintro e w ⟨rfl, rfl⟩)
    | (go_at_call 17; refine (clone_nil _).mono ?_; rintro e w ⟨rfl, rfl⟩)
    | (go_at_call 18; refine (zz_app (app_nil (s1 ++ s2) _ hcs)).mono ?_))
  rintro e w3 ⟨gW, cW, nW, rfl, hnW, bW, fW⟩
  have bel3 : Below w.heap.size w w3 := (Below.refl _ _).grown fW.gr (Nat.le_refl _) (fun k e => by cases e)
  clear fW
  go_wp2_with (go_at_call 18; refine (zz_app (app_nil s1 _ (by omega))).mono ?_)
  rintro e w4 ⟨gX, cX, nX, rfl, hnX, bX, fX⟩
  have bW4 := bW.kept fX.gr (by simp)
  have bel4 : Below w.heap.size w w4 := bel3.grown fX.gr bel3.size (fun k e => by cases e)
  clear bW fX bel3
  go_wp2_with (go_at_call 18; refine (zz_app (app_nil s2 _ (by omega))).mono ?_)
  rintro e w5 ⟨gY, cY, nY, rfl, hnY, bY, fY⟩
  have hS : S4 w [] s1.data.toList s2.data.toList 0 n gW cW gX cX gY cY w5 := ⟨bel4.grown fY.gr bel4.size (fun k e => by cases e), Or.inl rfl, by have := bW4.kept fY.gr (by simp); simpa using this, by have := bX.kept fY.gr (by simp); simpa using this, by simpa using bY⟩
  have HnW := hid (len_whole hl hnW)
  have HnX := hid (len_quo hnX)
  have HnY := hid (len_quo hnY)
  have l1 := Pl.enc_len s1.data.toList
  have l2 := Pl.enc_len s2.data.toList
  rw [size_list] at l1 l2
  have q1 := quo_len s1.data.toList
  have q2 := quo_len s2.data.toList
  have a1 : s1.size + 2 ≤ nX ∧ nX ≤ 400000 := by have := HnX.out; omega
  have a2 : s2.size + 2 ≤ nY ∧ nY ≤ 400000 := by have := HnY.out; omega
  have a3 : nW + 2 = n + nX + nY := by have := HnX.out; have := HnY.out; have := HnW.out; omega
  have A3 := hid a3
  have a4 : nW ≤ 1000000 := by omega
  have a8 : n ≤ nW := by omega
  have a5 : ((nW : Int) != (n : Int) + (nX : Int) - 1 + (nY : Int) - 1) = false := by rw [bne_eq_false_iff_eq]; omega
  have a6 : decide ((nX : Int) < (s1.size : Int) + 2) = false := by simp; omega
  have a7 : decide ((nY : Int) < (s2.size : Int) + 2) = false := by simp; omega
  have cx0 := quo_first hS.X
  have cx1 := quo_last hS.X (nX - 1) (by have := HnX.out; omega)
  have cy0 := quo_first hS.Y
  have cy1 := quo_last hS.Y (nY - 1) (by have := HnY.out; omega)
  clear bW4 bX bY fY bel4 hnW hnX hnY l1 l2 q1 q2 a3
  go_wp2
  clear cx0 cx1 cy0 cy1
  go_loopw [12, 13] (fun p i wr => ∃ k : Nat, k ≤ n ∧ p = .int .i64 k ∧ i = .int .i64 k ∧ S4 w [] s1.data.toList s2.data.toList 0 n gW cW gX cX gY cY wr) (fun _ i _ => n - (intOf i).toNat)
  case atStart => exact ⟨0, Nat.zero_le _, rfl, rfl, hS⟩
  case round =>
    obtain ⟨k, hk, rfl, rfl, hS1⟩ := hrel
    by_cases hlt : k < n
    · exact absurd hlt (by omega)
    · have hke : n = k := by omega
      subst hke
      clear hS
      go_wp2
      go_loopw [12, 14] (fun p i wr => ∃ k pp : Nat, k + 1 ≤ nX ∧ p = .int .i64 pp ∧ i = .int .i64 k ∧ Hid (pp = n + k) ∧ S4 w [] s1.data.toList s2.data.toList 0 n gW cW gX cX gY cY wr) (fun _ i _ => nX - (intOf i).toNat)
      case atStart => exact ⟨0, n, by omega, rfl, rfl, hid rfl, hS1⟩
      case round =>
        obtain ⟨k, pp, hk2, rfl, rfl, hpp, hS2⟩ := hrel
        have hpb : pp + 1 ≤ nW := by have := hpp.out; have := A3.out; omega
        by_cases hlt2 : k + 1 < nX
        · obtain ⟨v, c1, c2⟩ := same2 hS2 k pp (by have := HnX.out; omega) (by have := hpp.out; unfold Len at hl; omega)
          have i1 : (pp : Int) < (nW : Int) := by omega
          have i2 : (k : Int) < (nX : Int) := by omega
          have i3 : (k : Int) < (nX : Int) - 1 := by omega
          have hpp' : Hid (pp + 1 = n + (k + 1)) := hid (by have := hpp.out; omega)
          go_wp2
          go_region
          all_goals
            go_wp2
            go_roundw
            case rel => exact ⟨k + 1, pp + 1, by omega, by go_num, by go_num, hpp', hS2.drew⟩
            case measure => simp [intOf]; omega
        · have hpe : Hid (pp + 1 = n + (nX - 1) + 1) := hid (by have := hpp.out; omega)
          clear hS1 hpp
          go_wp2
          go_loopw [12, 15] (fun p i wr => ∃ k q : Nat, 1 ≤ k ∧ k ≤ nY ∧ p = .int .i64 q ∧ i = .int .i64 k ∧ Hid (q + 1 = n + (nX - 1) + k) ∧ S4 w [] s1.data.toList s2.data.toList 0 n gW cW gX cX gY cY wr) (fun _ i _ => nY - (intOf i).toNat)
          case atStart => exact ⟨1, pp, Nat.le_refl _, by omega, rfl, rfl, hpe, hS2⟩
          case round =>
            obtain ⟨k3, q, hk31, hk32, rfl, rfl, hq, hS3⟩ := hrel
            have hqb : q ≤ nW := by have := hq.out; have := A3.out; omega
            by_cases hlt3 : k3 < nY
            · obtain ⟨v, c1, c2⟩ := same3 hS3 k3 q hk31 (by have := HnY.out; omega) (by have := hq.out; have := HnX.out; unfold Len at hl; omega)
              have i1 : (q : Int) < (nW : Int) := by have := hq.out; have := A3.out; omega
              have i2 : (k3 : Int) < (nY : Int) := by omega
              have hq' : Hid (q + 1 + 1 = n + (nX - 1) + (k3 + 1)) := hid (by have := hq.out; omega)
              go_wp2
              go_region
              all_goals
                go_wp2
                go_roundw
                case rel => exact ⟨k3 + 1, q + 1, by omega, by omega, by go_num, by go_num, hq', hS3.drew⟩
                case measure => simp [intOf]; omega
            · have hbel := hS3.bel
              go_wp2
              go_ret
              exact ⟨rfl, hbel⟩

end Cut
end Go.Proofs.Qxb6619578a
