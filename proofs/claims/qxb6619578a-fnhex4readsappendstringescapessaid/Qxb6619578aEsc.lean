/-
  THE WALK of FnHex4ReadsAppendStringEscapes.
-/
import Derived.Test.Qxb6619578aAt
import Derived.Test.Qxb6619578aSpec
namespace Go.Proofs.Qxb6619578a
open Go.RowKit
set_option linter.unusedVariables false
set_option linter.unusedSimpArgs false
namespace Esc
open App Cut Low Hex

set_option maxHeartbeats 400000 in
theorem zz21_yes (s : ByteArray) (w : World) (h : s.size ≤ 1048576) :
    Calls Try.prog 21 #[.string s] w fun e w' => e = .returned (.bool true) ∧ w = w' := by
  go_enter Try.func21, Try.ntmps21
  go_wp2
  go_ret
  exact ⟨rfl, rfl⟩
set_option maxRecDepth 100000 in
set_option maxHeartbeats 400000 in
theorem zz21_no (s : ByteArray) (w : World) (h1 : s.size ≤ 9223372036854775807) (h : ¬ s.size ≤ 1048576) :
    Calls Try.prog 21 #[.string s] w fun e w' => e = .returned (.bool false) ∧ w = w' := by
  go_enter Try.func21, Try.ntmps21
  go_wp2
  all_goals
    go_ret
    exact ⟨rfl, rfl⟩

theorem hv_hxd : ∀ a : Nat, a < 16 → hv (Pl.hxd a).toNat = some a := by decide +kernel
theorem dg_at {l : List UInt8} {j v d : Nat} {b : UInt8} (h : Dg l j v d) (hb : l[j]? = some b) : hv b.toNat = some d := by
  obtain ⟨b', h1, h2⟩ := h.at'
  rw [hb] at h1
  cases h1
  rw [h2]; exact h.val
/-- What hex4 answers at an escape. -/
theorem res_ctl {l : List UInt8} {a b c : Nat} {r m : Int} (h2 : l[2]? = some 48) (h3 : l[3]? = some 48) (h4 : l[4]? = some (Pl.hxd a)) (h5 : l[5]? = some (Pl.hxd b)) (ha : a < 16) (hb : b < 16) (hc : c = a * 16 + b) (h : Res l r m) : m = -1 ∧ r = (c : Int) := by
  have z : hv (48 : UInt8).toNat = some 0 := by decide
  rcases h with ⟨hm, x, hr, hx⟩ | ⟨hr, k, hm, k2, k5, kl, hx, hno⟩
  · obtain ⟨v0, v1, v2, v3, d0, d1, d2, d3, g0, g1, g2, g3, e⟩ := hx.four
    have e0 := dg_at g0 h2
    have e1 := dg_at g1 h3
    have e2 := dg_at g2 h4
    have e3 := dg_at g3 h5
    rw [z] at e0 e1
    rw [hv_hxd a ha] at e2
    rw [hv_hxd b hb] at e3
    cases e0; cases e1; cases e2; cases e3
    exact ⟨hm, by rw [hr]; omega⟩
  · exfalso
    obtain rfl | rfl | rfl | rfl : k = 2 ∨ k = 3 ∨ k = 4 ∨ k = 5 := by omega
    · have := hno _ h2; rw [z] at this; cases this
    · have := hno _ h3; rw [z] at this; cases this
    · have := hno _ h4; rw [hv_hxd a ha] at this; cases this
    · have := hno _ h5; rw [hv_hxd b hb] at this; cases this
theorem cellq {w : World} {g cap p : Nat} {l : List UInt8} {b : UInt8} (h : Byt w 5 g cap ([] ++ l)) (hp : l[p]? = some b) : w.cell? ⟨g, p, none⟩ = some (.int .u8 (b.toNat : Int)) := cell_of h hp

set_option maxRecDepth 100000 in
set_option maxHeartbeats 4000000 in
theorem walk_esc (s : ByteArray) (w : World) (h1 : s.size ≤ 65536) :
    Calls Try.prog 7 #[.string s] w fun e w' => e = .returned (.bool true) ∧ Below w.heap.size w w' := by
  have f1 : decide ((65536 : Int) < (s.size : Int)) = false := by simp; omega
  go_enter Try.func7, Try.ntmps7
  go_wp2_with (first
    | (go_at_call 21; refine (zz21_yes _ _ (by omega)).mono ?_; rintro e w ⟨rfl, rfl⟩)
    | (go_at_call 18; refine (zz_app (app_nil s _ (by omega))).mono ?_))
  rintro e w3 ⟨gO, cO, nO, rfl, hnO, bO, fO⟩
  have bel := hid ((Below.refl w.heap.size w).grown fO.gr (Nat.le_refl _) (fun k e => by cases e))
  clear fO
  have HnO : Hid (nO = (Pl.quo s.data.toList).length) := hid hnO
  have hcap := bO.room.1
  have hnO' : nO ≤ cO := by have := hnO; unfold Len at this; omega
  clear hnO hcap
  have l1 := Pl.enc_len s.data.toList
  rw [size_list] at l1
  have q1 := quo_len s.data.toList
  have a1 : s.size + 2 ≤ nO ∧ nO ≤ 500000 := by have := HnO.out; omega
  have a2 : decide ((nO : Int) < 2) = false := by simp; omega
  clear l1 q1
  have c0 : w3.cell? ⟨gO, 0, none⟩ = some (.int .u8 34) := cellq bO (quo_zero _)
  have c1 : w3.cell? ⟨gO, nO - 1, none⟩ = some (.int .u8 34) := cellq bO (quo_end _ _ (by have := HnO.out; omega))
  have BO := hid bO
  clear bO
  go_wp2
  clear c0 c1 a2
  go_loop [5, 6] (fun a b => ∃ k i : Nat, k ≤ s.size ∧ a = .int .i64 k ∧ b = .int .i64 i ∧ Hid (i = 1 + (Pl.enc (s.data.toList.take k)).length)) (fun a b => s.size - (intOf a).toNat)
  case atStart => exact ⟨0, 1, Nat.zero_le _, rfl, rfl, hid rfl⟩
  case round =>
    obtain ⟨k2, i, hk2, rfl, rfl, Hi⟩ := hrel
    by_cases hlt2 : k2 < s.size
    · by_cases hc : s[k2].toNat < 32
      · obtain ⟨a, b, ha, hb, hab, g0, g1, g2, g3, g4, g5, gn, gl⟩ := at_ctl s k2 i hlt2 Hi.out hc
        have z0 : w3.cell? ⟨gO, i, none⟩ = some (.int .u8 92) := cellq BO.out g0
        have z1 : w3.cell? ⟨gO, i + 1, none⟩ = some (.int .u8 117) := cellq BO.out g1
        have gl' : i + 7 ≤ nO := by have := HnO.out; omega
        have Gn := hid gn
        have CT := hid (fun (W : World) (hW : w3 = W) => zz_hex4 gO i (nO - i) (cO - i) ((Pl.quo s.data.toList).drop i) W
          (show nO - i = ((Pl.quo s.data.toList).drop i).length by have := HnO.out; rw [List.length_drop]; omega) (by omega)
          (fun j b hj => by subst hW; exact cellq BO.out (by rw [List.getElem?_drop] at hj; exact hj)))
        have RC := hid (fun r m => res_ctl (l := (Pl.quo s.data.toList).drop i) (a := a) (b := b) (c := s[k2].toNat) (r := r) (m := m) (by rw [List.getElem?_drop]; exact g2) (by rw [List.getElem?_drop]; exact g3) (by rw [List.getElem?_drop]; exact g4) (by rw [List.getElem?_drop]; exact g5) (by omega) hb hab)
        have ew : wrap32 ((s[k2].toNat : Nat) : Int) = ((s[k2].toNat : Nat) : Int) := by unfold wrap32; omega
        clear g0 g1 g2 g3 g4 g5 gl hab hc gn Hi
        go_wp2_with (go_at_call 12; refine (CT.out _ rfl).mono ?_; rintro e w ⟨r, m, rfl, hR, rfl⟩; obtain ⟨rfl, rfl⟩ := RC.out r m hR)
        go_round
        case rel => exact ⟨k2 + 1, i + 6, by omega, by go_num, by go_num, Gn⟩
        case measure => simp [intOf]; omega
      · by_cases hq : s[k2] = 34 ∨ s[k2] = 92
        · obtain ⟨g0, g1, gn, gl⟩ := at_esc s k2 i hlt2 Hi.out (by omega) hq
          have z0 : w3.cell? ⟨gO, i, none⟩ = some (.int .u8 92) := cellq BO.out g0
          have z1 := cellq BO.out g1
          have gl' : i + 3 ≤ nO := by have := HnO.out; omega
          have Gn := hid gn
          have v4 : (((s[k2].toNat : Nat) : Int) == 117) = false := by
            rw [beq_eq_false_iff_ne]
            rcases hq with h | h <;> rw [h] <;> decide
          clear g0 g1 gl hq hc gn Hi
          go_wp2
          go_round
          case rel => exact ⟨k2 + 1, i + 2, by omega, by go_num, by go_num, Gn⟩
          case measure => simp [intOf]; omega
        · obtain ⟨g0, gn, gl⟩ := at_plain s k2 i hlt2 Hi.out (by omega) (fun h => hq (Or.inl h)) (fun h => hq (Or.inr h))
          have z0 := cellq BO.out g0
          have gl' : i + 2 ≤ nO := by have := HnO.out; omega
          have Gn := hid gn
          have v3 : (((s[k2].toNat : Nat) : Int) == 92) = false := by
            rw [beq_eq_false_iff_ne]; intro h; exact hq (Or.inr (UInt8.toNat_inj.1 (show s[k2].toNat = 92 by omega)))
          clear g0 gl hq hc gn Hi
          go_wp2
          go_round
          case rel => exact ⟨k2 + 1, i + 1, by omega, by go_num, by go_num, Gn⟩
          case measure => simp [intOf]; omega
    · have ge : i + 1 = nO := by have h1 := HnO.out; have h2 := at_end s k2 i hlt2 Hi.out; omega
      have gg : ¬ (i : Int) < (nO : Int) - 1 := by omega
      have ek : (((k2 : Nat) : Int) == (s.size : Int)) = true := by rw [beq_iff_eq]; omega
      clear ge Hi
      go_wp2
      go_ret
      exact ⟨rfl, bel.out⟩
end Esc
end Go.Proofs.Qxb6619578a
