/-
  THE WALK of FnHex4Spec.
-/
import Derived.Test.Qxb6619578aHexWalk
import Derived.WalkSpells
namespace Go.Proofs.Qxb6619578a
open Go.RowKit
set_option linter.unusedVariables false
set_option linter.unusedSimpArgs false
namespace Hex
open App Clone

theorem Rd.at {l : List UInt8} {k x : Nat} (h : Rd l k x) : ∀ j, 2 ≤ j → j < k → ∃ b d, l[j]? = some b ∧ hv b.toNat = some d := by
  induction h with
  | start => intro j h1 h2; omega
  | @step k r b d h1 h2 h3 ih =>
    intro j j1 j2
    by_cases e : j = k
    · rw [e]; exact ⟨b, d, h2, h3⟩
    · exact ih j j1 (by omega)
/-- The digit d is written as the byte of value v. -/
structure Dg (l : List UInt8) (j v d : Nat) : Prop where
  at' : ∃ b : UInt8, l[j]? = some b ∧ b.toNat = v
  val : hv v = some d
theorem Rd.back {l : List UInt8} {k x : Nat} (h : Rd l (k + 1) x) (hk : 2 ≤ k) : ∃ y v d, Rd l k y ∧ Dg l k v d ∧ x = y * 16 + d := by
  generalize hm : k + 1 = m at h
  cases h with
  | start => omega
  | @step k' r b d h1 h2 h3 =>
    obtain rfl : k = k' := by omega
    exact ⟨r, b.toNat, d, h1, ⟨⟨b, h2, rfl⟩, h3⟩, rfl⟩
theorem Rd.two {l : List UInt8} {x : Nat} (h : Rd l 2 x) : x = 0 := by
  generalize hm : 2 = m at h
  cases h with
  | start => rfl
  | step h1 h2 h3 => have := h1.lt; omega
theorem Rd.four {l : List UInt8} {x : Nat} (h : Rd l 6 x) : ∃ v0 v1 v2 v3 d0 d1 d2 d3, Dg l 2 v0 d0 ∧ Dg l 3 v1 d1 ∧ Dg l 4 v2 d2 ∧ Dg l 5 v3 d3 ∧ x = ((d0 * 16 + d1) * 16 + d2) * 16 + d3 := by
  obtain ⟨y3, v3, d3, r3, g3, e3⟩ := h.back (by omega)
  obtain ⟨y2, v2, d2, r2, g2, e2⟩ := r3.back (by omega)
  obtain ⟨y1, v1, d1, r1, g1, e1⟩ := r2.back (by omega)
  obtain ⟨y0, v0, d0, r0, g0, e0⟩ := r1.back (by omega)
  have := r0.two
  exact ⟨v0, v1, v2, v3, d0, d1, d2, d3, g0, g1, g2, g3, by omega⟩
theorem Rd.len {l : List UInt8} {k x : Nat} (h : Rd l k x) : 2 < k → k ≤ l.length := by
  intro hk
  cases h with
  | start => omega
  | @step k r b d h1 h2 h3 =>
    have := (List.getElem?_eq_some_iff.1 h2).1
    omega
theorem and16 (y : Nat) (hy : y < 65536) : bits .and .i32 (y : Int) 15 = ((y % 16 : Nat) : Int) := by
  have e1 : (BitVec.ofInt 32 (y : Int)).toNat = y := by rw [BitVec.toNat_ofInt]; omega
  have e2 : (BitVec.ofInt 32 15).toNat = 15 := by decide
  have e3 : y &&& 15 = y % 16 := Nat.and_two_pow_sub_one_eq_mod y 4
  show IntKind.i32.wrap ((BitVec.ofInt 32 (y : Int) &&& BitVec.ofInt 32 15).toNat : Int) = _
  rw [BitVec.toNat_and, e1, e2, e3]
  simp [IntKind.wrap, IntKind.bits, IntKind.signed]
  split <;> omega

/-- The clone, as it is read. -/
theorem cell_at {w : World} {g n j : Nat} {l : List UInt8} {b : UInt8} (h : Byt w 5 g n l) (hb : l[j]? = some b) : w.cell? ⟨g, j, none⟩ = some (.int .u8 (b.toNat : Int)) := by
  obtain ⟨hj, e⟩ := List.getElem?_eq_some_iff.1 hb
  rw [← e]; exact h.cell j hj
theorem dg_cell {w : World} {g n j v d : Nat} {l : List UInt8} (h : Byt w 5 g n l) (hb : Dg l j v d) : w.cell? ⟨g, j, none⟩ = some (.int .u8 v) ∧ v < 256 ∧ hv v = some d ∧ d < 16 := by
  obtain ⟨b, h1, h2⟩ := hb.at'
  subst h2
  exact ⟨cell_at h h1, b.toNat_lt, hb.val, hv_lt hb.val⟩
/-- A digit is written as one of its two bytes. -/
theorem one_of : ∀ d : Nat, d < 16 → ∀ v : Nat, v < 256 → hv v = some d → ((v : Int) != ((Pl.hxd d).toNat : Int)) = false ∨ (((v : Int) != ((Pl.hxd d).toNat : Int)) = true ∧ ((v : Int) != ((hxU d).toNat : Int)) = false) := by decide +kernel

set_option maxRecDepth 100000 in
set_option maxHeartbeats 4000000 in
theorem spec_row (x : Addr) (n cap : Nat) (l : List UInt8) (w : World) (hl : Len n l) (hx : ∀ j (hj : j < l.length), w.cell? (x.add j) = some (.int .u8 (l[j].toNat : Int))) (h2 : 2 ≤ n) (hn : n ≤ 65536) :
    Calls Try.prog 4 #[.slice (some x) n cap] w fun e w' => e = .returned (.bool true) ∧ Below w.heap.size w w' := by
  have hnn := run_neq_slice_nil_any (P := Try.prog) w 25 5 (some x) n cap 0 0 Try.underlying25
  have HX := hid hx
  clear hx
  obtain ⟨i0, hi, hz0, hz1, hz2⟩ := info_parts info5
  go_enter Try.func4, Try.ntmps4
  go_wp2_with (first
    | (go_at_call 11; refine (zz11_yes _ _ _ _ (by omega)).mono ?_; rintro e w ⟨rfl, rfl⟩)
    | (at_make; refine wpList_make_full _ rfl _ _ 25 rfl 0 5 i0 (.int .u8 0) 1 Try.underlying25 hi hz0 hz1 _ _ _ _ n rfl rfl rfl rfl (by rw [hz2]; omega) (by unfold maxLen; omega) (Nat.zero_le _) ?_))
  intro w1 hown hgr
  have hsrc : ∀ j (hj : j < l.length), w1.cell? (x.add j) = some (.int .u8 (l[j].toNat : Int)) := fun j hj => hgr.cell (HX.out j hj) (by simp)
  obtain ⟨w2, hcp, hb2, hgr2⟩ := run_clone (P := Try.prog) w1 25 3 5 Try.underlying25 (by rw [hi]; simp [hz1]) w.heap.size n _ hown x cap l (Eq.symm hl) hsrc
  have bel := hid (((Below.refl _ _).grown hgr (Nat.le_refl _) (fun k e => by cases e)).grown hgr2 hgr.size (fun k e => by cases e; exact Nat.le_refl _))
  clear hown hgr hgr2 hsrc HX
  go_wp2_with (go_at_call 12; refine (zz_hex4 w.heap.size 0 n n l _ hl h2 (fun j b hj => by rw [Nat.zero_add]; exact cell_at hb2 hj)).mono ?_)
  rintro e w3 ⟨r, m, rfl, hR, rfl⟩
  clear hcp
  rcases hR with ⟨rfl, X, rfl, hX⟩ | ⟨rfl, k, rfl, k2, k5, kl, ⟨X, hX⟩, hno⟩
  · have h6 : 6 ≤ n := by have h := hX.len (by omega); have h' : n = l.length := hl; omega
    have hX16 : X < 65536 := by have h := hX.lt; simpa using h.2
    have F := hid hX.four
    have HX := hid hX
    have HB2 := hid hb2
    have b1 : decide ((n : Int) < 6) = false := by simp; omega
    have b2 : decide ((65535 : Int) < (X : Int)) = false := by simp; omega
    clear hX hb2
    go_wp2
    go_loop [7] (fun i => ∃ j : Nat, 2 ≤ j ∧ j ≤ 6 ∧ i = .int .i64 j) (fun i => 6 - (intOf i).toNat)
    case atStart => exact ⟨2, by omega, by omega, rfl⟩
    case round =>
      obtain ⟨j, j2, j6, rfl⟩ := hrel
      by_cases hj : j < 6
      · obtain ⟨b, d, hb, hd⟩ := HX.out.at j j2 hj
        have c := cell_at HB2.out hb
        have D := dig_yes b.toNat d b.toNat_lt hd
        generalize b.toNat = v at c D hd
        clear hb hd
        have hjn : j < n := by omega
        go_wp2_with (go_at_call 13; refine (D _).mono ?_; rintro e w ⟨rfl, rfl⟩)
        go_round
        case rel => exact ⟨j + 1, by omega, by omega, by go_num⟩
        case measure => simp [intOf]; omega
      · have hj' : ¬ (j : Int) < 6 := by omega
        go_wp2
        go_loop [8] (fun i => i = .int .i64 0 ∨ i = .int .i64 1 ∨ i = .int .i64 2 ∨ i = .int .i64 3 ∨ i = .int .i64 4) (fun i => 4 - (intOf i).toNat)
        case atStart => exact Or.inl rfl
        case round =>
          obtain ⟨v0, v1, v2, v3, d0, d1, d2, d3, g0, g1, g2, g3, eX⟩ := F.out
          rcases hrel with rfl | rfl | rfl | rfl | rfl
          · obtain ⟨c, hv256, hv', hd⟩ := dg_cell HB2.out g0
            have L1 := hex_low d0 hd
            have L2 := hex_up d0 hd
            have ea : bits .and .i32 ((X : Int) / 4096) 15 = (d0 : Int) := by
              rw [show ((X : Int) / 4096) = (((X / 4096) : Nat) : Int) by omega, and16 _ (by omega)]
              have q0 := hv_lt g0.val
              have q1 := hv_lt g1.val
              have q2 := hv_lt g2.val
              have q3 := hv_lt g3.val
              omega
            have hone := one_of d0 hd v0 hv256 hv'
            generalize ((Pl.hxd d0).toNat : Int) = y1 at L1 hone
            generalize ((hxU d0).toNat : Int) = y2 at L2 hone
            clear eX g0 g1 g2 g3 hv'
            have rel' : ∀ (i : Value), i = .int .i64 1 → i = .int .i64 0 ∨ i = .int .i64 1 ∨ i = .int .i64 2 ∨ i = .int .i64 3 ∨ i = .int .i64 4 := by intro i h; simp [h]
            rcases hone with o1 | ⟨o1, o2⟩
            · go_wp2_with (first
                | (go_at_call 14; refine (L1 _).mono ?_; rintro e w ⟨rfl, rfl⟩)
                | (go_at_call 15; refine (L2 _).mono ?_; rintro e w ⟨rfl, rfl⟩))
              go_round
              case rel => exact rel' _ rfl
              case measure => simp [intOf]
            · go_wp2_with (first
                | (go_at_call 14; refine (L1 _).mono ?_; rintro e w ⟨rfl, rfl⟩)
                | (go_at_call 15; refine (L2 _).mono ?_; rintro e w ⟨rfl, rfl⟩))
              go_round
              case rel => exact rel' _ rfl
              case measure => simp [intOf]
          · obtain ⟨c, hv256, hv', hd⟩ := dg_cell HB2.out g1
            have L1 := hex_low d1 hd
            have L2 := hex_up d1 hd
            have ea : bits .and .i32 ((X : Int) / 256) 15 = (d1 : Int) := by
              rw [show ((X : Int) / 256) = (((X / 256) : Nat) : Int) by omega, and16 _ (by omega)]
              have q0 := hv_lt g0.val
              have q1 := hv_lt g1.val
              have q2 := hv_lt g2.val
              have q3 := hv_lt g3.val
              omega
            have hone := one_of d1 hd v1 hv256 hv'
            generalize ((Pl.hxd d1).toNat : Int) = y1 at L1 hone
            generalize ((hxU d1).toNat : Int) = y2 at L2 hone
            clear eX g0 g1 g2 g3 hv'
            have rel' : ∀ (i : Value), i = .int .i64 2 → i = .int .i64 0 ∨ i = .int .i64 1 ∨ i = .int .i64 2 ∨ i = .int .i64 3 ∨ i = .int .i64 4 := by intro i h; simp [h]
            rcases hone with o1 | ⟨o1, o2⟩
            · go_wp2_with (first
                | (go_at_call 14; refine (L1 _).mono ?_; rintro e w ⟨rfl, rfl⟩)
                | (go_at_call 15; refine (L2 _).mono ?_; rintro e w ⟨rfl, rfl⟩))
              go_round
              case rel => exact rel' _ rfl
              case measure => simp [intOf]
            · go_wp2_with (first
                | (go_at_call 14; refine (L1 _).mono ?_; rintro e w ⟨rfl, rfl⟩)
                | (go_at_call 15; refine (L2 _).mono ?_; rintro e w ⟨rfl, rfl⟩))
              go_round
              case rel => exact rel' _ rfl
              case measure => simp [intOf]
          · obtain ⟨c, hv256, hv', hd⟩ := dg_cell HB2.out g2
            have L1 := hex_low d2 hd
            have L2 := hex_up d2 hd
            have ea : bits .and .i32 ((X : Int) / 16) 15 = (d2 : Int) := by
              rw [show ((X : Int) / 16) = (((X / 16) : Nat) : Int) by omega, and16 _ (by omega)]
              have q0 := hv_lt g0.val
              have q1 := hv_lt g1.val
              have q2 := hv_lt g2.val
              have q3 := hv_lt g3.val
              omega
            have hone := one_of d2 hd v2 hv256 hv'
            generalize ((Pl.hxd d2).toNat : Int) = y1 at L1 hone
            generalize ((hxU d2).toNat : Int) = y2 at L2 hone
            clear eX g0 g1 g2 g3 hv'
            have rel' : ∀ (i : Value), i = .int .i64 3 → i = .int .i64 0 ∨ i = .int .i64 1 ∨ i = .int .i64 2 ∨ i = .int .i64 3 ∨ i = .int .i64 4 := by intro i h; simp [h]
            rcases hone with o1 | ⟨o1, o2⟩
            · go_wp2_with (first
                | (go_at_call 14; refine (L1 _).mono ?_; rintro e w ⟨rfl, rfl⟩)
                | (go_at_call 15; refine (L2 _).mono ?_; rintro e w ⟨rfl, rfl⟩))
              go_round
              case rel => exact rel' _ rfl
              case measure => simp [intOf]
            · go_wp2_with (first
                | (go_at_call 14; refine (L1 _).mono ?_; rintro e w ⟨rfl, rfl⟩)
                | (go_at_call 15; refine (L2 _).mono ?_; rintro e w ⟨rfl, rfl⟩))
              go_round
              case rel => exact rel' _ rfl
              case measure => simp [intOf]
          · obtain ⟨c, hv256, hv', hd⟩ := dg_cell HB2.out g3
            have L1 := hex_low d3 hd
            have L2 := hex_up d3 hd
            have ea : bits .and .i32 (X : Int) 15 = (d3 : Int) := by
              rw [show (X : Int) = ((X : Nat) : Int) by omega, and16 _ (by omega)]
              have q0 := hv_lt g0.val
              have q1 := hv_lt g1.val
              have q2 := hv_lt g2.val
              have q3 := hv_lt g3.val
              omega
            have hone := one_of d3 hd v3 hv256 hv'
            generalize ((Pl.hxd d3).toNat : Int) = y1 at L1 hone
            generalize ((hxU d3).toNat : Int) = y2 at L2 hone
            clear eX g0 g1 g2 g3 hv'
            have rel' : ∀ (i : Value), i = .int .i64 4 → i = .int .i64 0 ∨ i = .int .i64 1 ∨ i = .int .i64 2 ∨ i = .int .i64 3 ∨ i = .int .i64 4 := by intro i h; simp [h]
            rcases hone with o1 | ⟨o1, o2⟩
            · go_wp2_with (first
                | (go_at_call 14; refine (L1 _).mono ?_; rintro e w ⟨rfl, rfl⟩)
                | (go_at_call 15; refine (L2 _).mono ?_; rintro e w ⟨rfl, rfl⟩))
              go_round
              case rel => exact rel' _ rfl
              case measure => simp [intOf]
            · go_wp2_with (first
                | (go_at_call 14; refine (L1 _).mono ?_; rintro e w ⟨rfl, rfl⟩)
                | (go_at_call 15; refine (L2 _).mono ?_; rintro e w ⟨rfl, rfl⟩))
              go_round
              case rel => exact rel' _ rfl
              case measure => simp [intOf]
          · go_wp2
            go_ret
            exact ⟨rfl, bel.out⟩
  · have HX := hid hX
    have HB2 := hid hb2
    have kn : k ≤ n := by have h' : n = l.length := hl; omega
    have b0 : ((k : Int) != -1) = true := by rw [bne_iff_ne]; omega
    have b0' : ((k : Int) == -1) = false := by rw [beq_eq_false_iff_ne]; omega
    have b1 : decide ((k : Int) < 2) = false := by simp; omega
    have b2 : decide ((5 : Int) < (k : Int)) = false := by simp; omega
    have b3 : decide ((n : Int) < (k : Int)) = false := by simp; omega
    have HNO := hid hno
    clear hX hb2 hno
    by_cases hlt : k < n
    · have hkl : k < l.length := by have h' : n = l.length := hl; omega
      have hb := List.getElem?_eq_getElem hkl
      have c := cell_at HB2.out hb
      have D := dig_no l[k].toNat l[k].toNat_lt (HNO.out _ hb)
      generalize l[k].toNat = v at c D
      have b4 : decide ((k : Int) < (n : Int)) = true := by simp; omega
      clear hb
      go_wp2_with (go_at_call 13; refine (D _).mono ?_; rintro e w ⟨rfl, rfl⟩)
      go_loop [7] (fun i => ∃ j : Nat, 2 ≤ j ∧ j ≤ k ∧ i = .int .i64 j) (fun i => k - (intOf i).toNat)
      case atStart => exact ⟨2, by omega, k2, rfl⟩
      case round =>
        obtain ⟨j, j2, j6, rfl⟩ := hrel
        by_cases hj : j < k
        · obtain ⟨b, d, hb, hd⟩ := HX.out.at j j2 hj
          have c := cell_at HB2.out hb
          have D := dig_yes b.toNat d b.toNat_lt hd
          generalize b.toNat = v at c D hd
          clear hb hd
          have hjn : j < n := by omega
          go_wp2_with (go_at_call 13; refine (D _).mono ?_; rintro e w ⟨rfl, rfl⟩)
          go_round
          case rel => exact ⟨j + 1, by omega, by omega, by go_num⟩
          case measure => simp [intOf]; omega
        · have hj' : ¬ (j : Int) < (k : Int) := by omega
          go_wp2
          go_ret
          exact ⟨rfl, bel.out⟩
    · obtain rfl : k = n := by omega
      clear b3 kn hlt
      go_wp2
      go_loop [7] (fun i => ∃ j : Nat, 2 ≤ j ∧ j ≤ k ∧ i = .int .i64 j) (fun i => k - (intOf i).toNat)
      case atStart => exact ⟨2, by omega, k2, rfl⟩
      case round =>
        obtain ⟨j, j2, j6, rfl⟩ := hrel
        by_cases hj : j < k
        · obtain ⟨b, d, hb, hd⟩ := HX.out.at j j2 hj
          have c := cell_at HB2.out hb
          have D := dig_yes b.toNat d b.toNat_lt hd
          generalize b.toNat = v at c D hd
          clear hb hd
          go_wp2_with (go_at_call 13; refine (D _).mono ?_; rintro e w ⟨rfl, rfl⟩)
          go_round
          case rel => exact ⟨j + 1, by omega, by omega, by go_num⟩
          case measure => simp [intOf]; omega
        · have hj' : ¬ (j : Int) < (k : Int) := by omega
          go_wp2
          go_ret
          exact ⟨rfl, bel.out⟩
end Hex
end Go.Proofs.Qxb6619578a
