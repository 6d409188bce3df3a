/-
  THE WALK of FnAppendStringDecodesBack.
-/
import Derived.Test.Qxb6619578aAt
import Derived.Test.Qxb6619578aCutWalk
namespace Go.Proofs.Qxb6619578a
open Go.RowKit
set_option linter.unusedVariables false
set_option linter.unusedSimpArgs false
namespace Dec
open App Clone Cut Low

set_option maxHeartbeats 400000 in
theorem zz16_yes (a : Option Addr) (n cap : Nat) (s : ByteArray) (w : World) (h : n + s.size ≤ 1048576) :
    Calls Try.prog 16 #[.slice a n cap, .string s] w fun e w' => e = .returned (.bool true) ∧ w = w' := by
  go_enter Try.func16, Try.ntmps16
  go_wp2
  go_ret
  exact ⟨rfl, rfl⟩
set_option maxRecDepth 100000 in
set_option maxHeartbeats 400000 in
theorem zz16_no (a : Option Addr) (n cap : Nat) (s : ByteArray) (w : World) (h0 : n ≤ 9223372036854775807) (h1 : s.size ≤ 9223372036854775807) (h : ¬ n + s.size ≤ 1048576) :
    Calls Try.prog 16 #[.slice a n cap, .string s] w fun e w' => e = .returned (.bool false) ∧ w = w' := by
  go_enter Try.func16, Try.ntmps16
  go_wp2
  all_goals
    go_ret
    exact ⟨rfl, rfl⟩

/-- The two rows, as they are read. -/
structure S2 (w : World) (l s : List UInt8) (gF cF gO cO : Nat) (wr : World) : Prop where
  bel : Below w.heap.size w wr
  F : l = [] ∨ Byt wr 5 gF cF l
  O : Byt wr 5 gO cO (l ++ Pl.quo s)
theorem S2.drew {w : World} {l s : List UInt8} {gF cF gO cO : Nat} {wr : World} (h : S2 w l s gF cF gO cO wr) : S2 w l s gF cF gO cO wr.drew := ⟨h.bel.drew, h.F, h.O⟩
theorem same1 {w : World} {l s : List UInt8} {gF cF gO cO : Nat} {wr : World} (h : S2 w l s gF cF gO cO wr) (k : Nat) (hk : k < l.length) : ∃ v : Int, wr.cell? ⟨gO, k, none⟩ = some (.int .u8 v) ∧ wr.cell? ⟨gF, k, none⟩ = some (.int .u8 v) := by
  rcases h.F with e | hF
  · subst e; simp at hk
  · have e := List.getElem?_eq_getElem hk
    exact ⟨_, cell_of h.O ((List.getElem?_append_left hk).trans e), cell_of hF e⟩
/-- A byte of the body. -/
theorem body_at' {w : World} {l s : List UInt8} {gF cF gO cO : Nat} {wr : World} (h : S2 w l s gF cF gO cO wr) {n p : Nat} {b : UInt8} (hn : Len n l) (hp : (Pl.quo s)[p]? = some b) : wr.cell? ⟨gO, n + p, none⟩ = some (.int .u8 (b.toNat : Int)) := by
  have hn' : n = l.length := hn
  refine cell_of h.O ?_
  rw [hn', List.getElem?_append_right (by omega), Nat.add_sub_cancel_left, hp]
theorem body_at {w : World} {l s : List UInt8} {gF cF gO cO : Nat} {wr : World} (h : S2 w l s gF cF gO cO wr) {n p q : Nat} {b : UInt8} (hn : Len n l) (hq : q = n + p) (hp : (Pl.quo s)[p]? = some b) : wr.cell? ⟨gO, q, none⟩ = some (.int .u8 (b.toNat : Int)) := by
  rw [hq]; exact body_at' h hn hp
/-- The value is that of the digit d. -/
structure HxOf (v : Int) (d : Nat) : Prop where
  lt : d < 16
  eq : v = ((Pl.hxd d).toNat : Int)
theorem low_of (v : Int) (d : Nat) (h : HxOf v d) (w : World) : Calls Try.prog 19 #[.int .u8 v] w fun e w' => e = .returned (.int .i64 d) ∧ w = w' := by
  have h2 := h.eq
  subst h2
  exact low_hex d h.lt w
theorem len_out {n nO : Nat} {l : List UInt8} {s : ByteArray} (hl : Len n l) (h : Len nO (l ++ Pl.quo s.data.toList)) : nO = n + (Pl.quo s.data.toList).length := by
  unfold Len at h hl
  rw [h, hl]; simp

set_option maxRecDepth 100000 in
set_option maxHeartbeats 4000000 in
theorem walk_row (x : Addr) (n cap : Nat) (l : List UInt8) (s : ByteArray) (w : World) (hl : Len n l) (hx : ∀ j (hj : j < l.length), w.cell? (x.add j) = some (.int .u8 (l[j].toNat : Int))) (hnb : n ≤ 65536) (h1 : s.size ≤ 65536) :
    Calls Try.prog 5 #[.slice (some x) n cap, .string s] w fun e w' => e = .returned (.bool true) ∧ Below w.heap.size w w' := by
  have hll : l.length ≤ 1048576 := by unfold Len at hl; omega
  have f1 : decide ((65536 : Int) < (s.size : Int)) = false := by simp; omega
  have f2 : decide ((65536 : Int) < (n : Int)) = false := by simp; omega
  have HX := hid hx
  clear hx
  go_enter Try.func5, Try.ntmps5
  go_wp2_with (first
    | (go_at_call 16; refine (zz16_yes _ _ _ _ _ (by omega)).mono ?_; rintro e w ⟨rfl, rfl⟩)
    | (go_at_call 17; refine (clone_row x n cap l _ (by omega) hl HX.out).mono ?_))
  rintro e w1 ⟨rfl, b1, g1⟩
  go_wp2_with (go_at_call 17; refine (clone_row ⟨w.heap.size, 0, none⟩ n n l _ (by omega) hl (src_of b1)).mono ?_)
  rintro e w2 ⟨rfl, b2, g2⟩
  have b1' := b1.kept g2 (by simp)
  have hne : w.heap.size ≠ w1.heap.size := by have := b1.lt; omega
  have bel2 : Below w.heap.size w w2 := ((Below.refl _ _).grown g1 (Nat.le_refl _) (fun k e => by cases e)).grown g2 g1.size (fun k e => by cases e)
  clear g1 g2 b1
  go_wp2_with (go_at_call 18; refine (zz_app (app_byt w.heap.size n n l s _ b1' hl hll (by omega))).mono ?_)
  rintro e w3 ⟨gO, cO, nO, rfl, hnO, bO, fO⟩
  have b2' := b2.kept fO.gr (by intro e; injection e with e; omega)
  have hS : S2 w l s.data.toList w1.heap.size n gO cO w3 := ⟨bel2.grown fO.gr bel2.size (fun k e => by cases e; exact Nat.le_refl _), Or.inr b2', bO⟩
  clear b2 b1' fO bel2 b2' HX hne
  have HnO := hid (len_out hl hnO)
  have hcap := bO.room.1
  have hnO' : nO ≤ cO := by have := hnO; unfold Len at this; omega
  clear hnO bO hcap
  have l1 := Pl.enc_len s.data.toList
  rw [size_list] at l1
  have q1 := quo_len s.data.toList
  have a1 : n + s.size + 2 ≤ nO ∧ nO ≤ 500000 := by have := HnO.out; omega
  have a2 : decide ((nO : Int) < (n : Int) + 2) = false := by simp; omega
  clear l1 q1
  go_wp2
  go_loopw [7] (fun i wr => ∃ k : Nat, k ≤ n ∧ i = .int .i64 k ∧ S2 w l s.data.toList w1.heap.size n gO cO wr) (fun i _ => n - (intOf i).toNat)
  case atStart => exact ⟨0, Nat.zero_le _, rfl, hS⟩
  case round =>
    obtain ⟨k, hk, rfl, hS1⟩ := hrel
    by_cases hlt : k < n
    · obtain ⟨v, c1, c2⟩ := same1 hS1 k (by unfold Len at hl; omega)
      have i1 : (k : Int) < (nO : Int) := by omega
      have i2 : (k : Int) < (n : Int) := by omega
      go_wp2
      go_region
      all_goals
        go_wp2
        go_roundw
        case rel => exact ⟨k + 1, by omega, by go_num, hS1.drew⟩
        case measure => simp [intOf]; omega
    · clear hS
      have c0 : wr.cell? ⟨gO, n, none⟩ = some (.int .u8 34) := body_at hS1 (p := 0) hl (by omega) (quo_zero _)
      have c1 : wr.cell? ⟨gO, n + ((nO - n) - 1), none⟩ = some (.int .u8 34) := body_at hS1 (p := nO - n - 1) hl (by omega) (quo_end _ _ (by have := HnO.out; omega))
      have hlt' : ¬ (k : Int) < (n : Int) := by omega
      go_wp2
      clear c0 c1 a2 hk hlt'
      go_loop [10, 11] (fun a b => ∃ k i : Nat, k ≤ s.size ∧ a = .int .i64 k ∧ b = .int .i64 i ∧ Hid (i = 1 + (Pl.enc (s.data.toList.take k)).length)) (fun a b => s.size - (intOf a).toNat)
      case atStart => exact ⟨0, 1, Nat.zero_le _, rfl, rfl, hid rfl⟩
      case round =>
        obtain ⟨k2, i, hk2, rfl, rfl, Hi⟩ := hrel
        by_cases hlt2 : k2 < s.size
        · by_cases hc : s[k2].toNat < 32
          · obtain ⟨a, b, ha, hb, hab, g0, g1, g2, g3, g4, g5, gn, gl⟩ := at_ctl s k2 i hlt2 Hi.out hc
            have z0 : wr.cell? ⟨gO, n + i, none⟩ = some (.int .u8 92) := body_at hS1 hl (by omega) g0
            have z1 : wr.cell? ⟨gO, n + (i + 1), none⟩ = some (.int .u8 117) := body_at hS1 hl (by omega) g1
            have z2 : wr.cell? ⟨gO, n + (i + 2), none⟩ = some (.int .u8 48) := body_at hS1 hl (by omega) g2
            have z3 : wr.cell? ⟨gO, n + (i + 3), none⟩ = some (.int .u8 48) := body_at hS1 hl (by omega) g3
            have z4 : wr.cell? ⟨gO, n + (i + 4), none⟩ = some (.int .u8 ((Pl.hxd a).toNat : Int)) := body_at hS1 hl (by omega) g4
            have z5 : wr.cell? ⟨gO, n + (i + 5), none⟩ = some (.int .u8 ((Pl.hxd b).toNat : Int)) := body_at hS1 hl (by omega) g5
            have gl' : i + 7 ≤ (nO - n) := by have := HnO.out; omega
            have ev : (((s[k2].toNat : Nat) : Int) != (a : Int) * 16 + (b : Int)) = false := by rw [bne_eq_false_iff_eq]; omega
            have a16 : a < 16 := by omega
            have Gn := hid gn
            have hS2 := hid hS1
            clear g0 g1 g2 g3 g4 g5 gl hab hc gn Hi hS1
            have pa : HxOf ((Pl.hxd a).toNat : Int) a := ⟨a16, rfl⟩
            have pb : HxOf ((Pl.hxd b).toNat : Int) b := ⟨hb, rfl⟩
            generalize ((Pl.hxd a).toNat : Int) = xa at z4 pa
            generalize ((Pl.hxd b).toNat : Int) = xb at z5 pb
            go_wp2_with (go_at_call 19; refine (low_of _ _ (by first | exact pa | exact pb) _).mono ?_; rintro e w ⟨rfl, rfl⟩)
            go_round
            case rel => exact ⟨k2 + 1, i + 6, by omega, by go_num, by go_num, Gn⟩
            case measure => simp [intOf]; omega
          · by_cases hq : s[k2] = 34 ∨ s[k2] = 92
            · obtain ⟨g0, g1, gn, gl⟩ := at_esc s k2 i hlt2 Hi.out (by omega) hq
              have z0 : wr.cell? ⟨gO, n + i, none⟩ = some (.int .u8 92) := body_at hS1 hl (by omega) g0
              have z1' := body_at hS1 hl (q := n + (i + 1)) (by omega) g1
              have gl' : i + 3 ≤ (nO - n) := by have := HnO.out; omega
              have Gn := hid gn
              have hq' : s[k2].toNat = 34 ∨ s[k2].toNat = 92 := by
                rcases hq with h | h
                · exact Or.inl (by rw [h]; rfl)
                · exact Or.inr (by rw [h]; rfl)
              have hS2 := hid hS1
              clear g0 g1 gl hq hc gn Hi hS1
              rcases hq' with hq' | hq'
              · have z1 : wr.cell? ⟨gO, n + (i + 1), none⟩ = some (.int .u8 34) := by rw [hq'] at z1'; exact z1'
                clear z1'
                have ev : (((s[k2].toNat : Nat) : Int) != 34) = false := by rw [hq']; rfl
                clear hq'
                go_wp2
                go_round
                case rel => exact ⟨k2 + 1, i + 2, by omega, by go_num, by go_num, Gn⟩
                case measure => simp [intOf]; omega
              · have z1 : wr.cell? ⟨gO, n + (i + 1), none⟩ = some (.int .u8 92) := by rw [hq'] at z1'; exact z1'
                clear z1'
                have ev : (((s[k2].toNat : Nat) : Int) != 92) = false := by rw [hq']; rfl
                clear hq'
                go_wp2
                go_round
                case rel => exact ⟨k2 + 1, i + 2, by omega, by go_num, by go_num, Gn⟩
                case measure => simp [intOf]; omega
            · obtain ⟨g0, gn, gl⟩ := at_plain s k2 i hlt2 Hi.out (by omega) (fun h => hq (Or.inl h)) (fun h => hq (Or.inr h))
              have z0 := body_at hS1 hl (q := n + i) (by omega) g0
              have gl' : i + 2 ≤ (nO - n) := by have := HnO.out; omega
              have Gn := hid gn
              have v1 : decide (((s[k2].toNat : Nat) : Int) < 32) = false := by simp; omega
              have v2 : (((s[k2].toNat : Nat) : Int) == 34) = false := by
                rw [beq_eq_false_iff_ne]; intro h; exact hq (Or.inl (UInt8.toNat_inj.1 (show s[k2].toNat = 34 by omega)))
              have v3 : (((s[k2].toNat : Nat) : Int) == 92) = false := by
                rw [beq_eq_false_iff_ne]; intro h; exact hq (Or.inr (UInt8.toNat_inj.1 (show s[k2].toNat = 92 by omega)))
              have hS2 := hid hS1
              clear g0 gl hq hc gn Hi hS1
              go_wp2
              go_round
              case rel => exact ⟨k2 + 1, i + 1, by omega, by go_num, by go_num, Gn⟩
              case measure => simp [intOf]; omega
        · have ge : i + 1 = (nO - n) := by have h1 := HnO.out; have h2 := at_end s k2 i hlt2 Hi.out; omega
          have gg : ¬ (i : Int) < ((nO - n) : Int) - 1 := by omega
          have ek : (((k2 : Nat) : Int) == (s.size : Int)) = true := by rw [beq_iff_eq]; omega
          have bel := hid hS1.bel
          clear ge Hi hS1
          go_wp2
          go_ret
          exact ⟨rfl, bel.out⟩

set_option maxRecDepth 100000 in
set_option maxHeartbeats 4000000 in
theorem walk_nil (s : ByteArray) (w : World) (h1 : s.size ≤ 65536) :
    Calls Try.prog 5 #[.slice none 0 0, .string s] w fun e w' => e = .returned (.bool true) ∧ Below w.heap.size w w' := by
  have f1 : decide ((65536 : Int) < (s.size : Int)) = false := by simp; omega
  obtain ⟨n, hn⟩ : ∃ n : Nat, n = 0 := ⟨0, rfl⟩
  have hl : Len n ([] : List UInt8) := hn
  go_enter Try.func5, Try.ntmps5
  go_wp2_with (first
    | (go_at_call 16; refine (zz16_yes _ _ _ _ _ (by omega)).mono ?_; rintro e w ⟨rfl, rfl⟩)
    | (go_at_call 17; refine (clone_nil _).mono ?_; rintro e w ⟨rfl, rfl⟩)
    | (go_at_call 18; refine (zz_app (app_nil s _ (by omega))).mono ?_))
  rintro e w3 ⟨gO, cO, nO, rfl, hnO, bO, fO⟩
  have hS : S2 w [] s.data.toList 0 0 gO cO w3 := ⟨(Below.refl _ _).grown fO.gr (Nat.le_refl _) (fun k e => by cases e), Or.inl rfl, bO⟩
  clear fO
  have HnO := hid (len_out hl hnO)
  have hcap := bO.room.1
  have hnO' : nO ≤ cO := by have := hnO; unfold Len at this; omega
  clear hnO bO hcap
  have l1 := Pl.enc_len s.data.toList
  rw [size_list] at l1
  have q1 := quo_len s.data.toList
  have a1 : n + s.size + 2 ≤ nO ∧ nO ≤ 500000 := by have := HnO.out; omega
  have a2 : decide ((nO : Int) < (n : Int) + 2) = false := by simp; omega
  clear l1 q1
  go_wp2
  go_loopw [7] (fun i wr => ∃ k : Nat, k ≤ n ∧ i = .int .i64 k ∧ S2 w [] s.data.toList 0 0 gO cO wr) (fun i _ => n - (intOf i).toNat)
  case atStart => exact ⟨0, Nat.zero_le _, rfl, hS⟩
  case round =>
    obtain ⟨k, hk, rfl, hS1⟩ := hrel
    by_cases hlt : k < n
    · exact absurd hlt (by omega)
    · clear hS
      have c0 : wr.cell? ⟨gO, 0, none⟩ = some (.int .u8 34) := body_at hS1 (p := 0) hl (by omega) (quo_zero _)
      have c1 : wr.cell? ⟨gO, nO - 1, none⟩ = some (.int .u8 34) := body_at hS1 (p := nO - n - 1) hl (by omega) (quo_end _ _ (by have := HnO.out; omega))
      have hlt' : ¬ (k : Int) < 0 := by omega
      go_wp2
      clear c0 c1 a2 hk hlt'
      go_loop [10, 11] (fun a b => ∃ k i : Nat, k ≤ s.size ∧ a = .int .i64 k ∧ b = .int .i64 i ∧ Hid (i = 1 + (Pl.enc (s.data.toList.take k)).length)) (fun a b => s.size - (intOf a).toNat)
      case atStart => exact ⟨0, 1, Nat.zero_le _, rfl, rfl, hid rfl⟩
      case round =>
        obtain ⟨k2, i, hk2, rfl, rfl, Hi⟩ := hrel
        by_cases hlt2 : k2 < s.size
        · by_cases hc : s[k2].toNat < 32
          · obtain ⟨a, b, ha, hb, hab, g0, g1, g2, g3, g4, g5, gn, gl⟩ := at_ctl s k2 i hlt2 Hi.out hc
            have z0 : wr.cell? ⟨gO, i, none⟩ = some (.int .u8 92) := body_at hS1 hl (by omega) g0
            have z1 : wr.cell? ⟨gO, (i + 1), none⟩ = some (.int .u8 117) := body_at hS1 hl (by omega) g1
            have z2 : wr.cell? ⟨gO, (i + 2), none⟩ = some (.int .u8 48) := body_at hS1 hl (by omega) g2
            have z3 : wr.cell? ⟨gO, (i + 3), none⟩ = some (.int .u8 48) := body_at hS1 hl (by omega) g3
            have z4 : wr.cell? ⟨gO, (i + 4), none⟩ = some (.int .u8 ((Pl.hxd a).toNat : Int)) := body_at hS1 hl (by omega) g4
            have z5 : wr.cell? ⟨gO, (i + 5), none⟩ = some (.int .u8 ((Pl.hxd b).toNat : Int)) := body_at hS1 hl (by omega) g5
            have gl' : i + 7 ≤ nO := by have := HnO.out; omega
            have ev : (((s[k2].toNat : Nat) : Int) != (a : Int) * 16 + (b : Int)) = false := by rw [bne_eq_false_iff_eq]; omega
            have a16 : a < 16 := by omega
            have Gn := hid gn
            have hS2 := hid hS1
            clear g0 g1 g2 g3 g4 g5 gl hab hc gn Hi hS1
            have pa : HxOf ((Pl.hxd a).toNat : Int) a := ⟨a16, rfl⟩
            have pb : HxOf ((Pl.hxd b).toNat : Int) b := ⟨hb, rfl⟩
            generalize ((Pl.hxd a).toNat : Int) = xa at z4 pa
            generalize ((Pl.hxd b).toNat : Int) = xb at z5 pb
            go_wp2_with (go_at_call 19; refine (low_of _ _ (by first | exact pa | exact pb) _).mono ?_; rintro e w ⟨rfl, rfl⟩)
            go_round
            case rel => exact ⟨k2 + 1, i + 6, by omega, by go_num, by go_num, Gn⟩
            case measure => simp [intOf]; omega
          · by_cases hq : s[k2] = 34 ∨ s[k2] = 92
            · obtain ⟨g0, g1, gn, gl⟩ := at_esc s k2 i hlt2 Hi.out (by omega) hq
              have z0 : wr.cell? ⟨gO, i, none⟩ = some (.int .u8 92) := body_at hS1 hl (by omega) g0
              have z1' := body_at hS1 hl (q := (i + 1)) (by omega) g1
              have gl' : i + 3 ≤ nO := by have := HnO.out; omega
              have Gn := hid gn
              have hq' : s[k2].toNat = 34 ∨ s[k2].toNat = 92 := by
                rcases hq with h | h
                · exact Or.inl (by rw [h]; rfl)
                · exact Or.inr (by rw [h]; rfl)
              have hS2 := hid hS1
              clear g0 g1 gl hq hc gn Hi hS1
              rcases hq' with hq' | hq'
              · have z1 : wr.cell? ⟨gO, (i + 1), none⟩ = some (.int .u8 34) := by rw [hq'] at z1'; exact z1'
                clear z1'
                have ev : (((s[k2].toNat : Nat) : Int) != 34) = false := by rw [hq']; rfl
                clear hq'
                go_wp2
                go_round
                case rel => exact ⟨k2 + 1, i + 2, by omega, by go_num, by go_num, Gn⟩
                case measure => simp [intOf]; omega
              · have z1 : wr.cell? ⟨gO, (i + 1), none⟩ = some (.int .u8 92) := by rw [hq'] at z1'; exact z1'
                clear z1'
                have ev : (((s[k2].toNat : Nat) : Int) != 92) = false := by rw [hq']; rfl
                clear hq'
                go_wp2
                go_round
                case rel => exact ⟨k2 + 1, i + 2, by omega, by go_num, by go_num, Gn⟩
                case measure => simp [intOf]; omega
            · obtain ⟨g0, gn, gl⟩ := at_plain s k2 i hlt2 Hi.out (by omega) (fun h => hq (Or.inl h)) (fun h => hq (Or.inr h))
              have z0 := body_at hS1 hl (q := i) (by omega) g0
              have gl' : i + 2 ≤ nO := by have := HnO.out; omega
              have Gn := hid gn
              have v1 : decide (((s[k2].toNat : Nat) : Int) < 32) = false := by simp; omega
              have v2 : (((s[k2].toNat : Nat) : Int) == 34) = false := by
                rw [beq_eq_false_iff_ne]; intro h; exact hq (Or.inl (UInt8.toNat_inj.1 (show s[k2].toNat = 34 by omega)))
              have v3 : (((s[k2].toNat : Nat) : Int) == 92) = false := by
                rw [beq_eq_false_iff_ne]; intro h; exact hq (Or.inr (UInt8.toNat_inj.1 (show s[k2].toNat = 92 by omega)))
              have hS2 := hid hS1
              clear g0 gl hq hc gn Hi hS1
              go_wp2
              go_round
              case rel => exact ⟨k2 + 1, i + 1, by omega, by go_num, by go_num, Gn⟩
              case measure => simp [intOf]; omega
        · have ge : i + 1 = nO := by have h1 := HnO.out; have h2 := at_end s k2 i hlt2 Hi.out; omega
          have gg : ¬ (i : Int) < (nO : Int) - 1 := by omega
          have ek : (((k2 : Nat) : Int) == (s.size : Int)) = true := by rw [beq_iff_eq]; omega
          have bel := hid hS1.bel
          clear ge Hi hS1
          go_wp2
          go_ret
          exact ⟨rfl, bel.out⟩

end Dec
end Go.Proofs.Qxb6619578a
