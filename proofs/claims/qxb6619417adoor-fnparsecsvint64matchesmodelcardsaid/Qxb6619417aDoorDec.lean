/-
  THE WALK of csvDecimal.
-/
import Derived.Test.Qxb6619417aDoorFast
import Derived.Test.Qxb6619417aDoorNot
namespace Go.Proofs.Qxb6619417aDoor
open Go.RowKit
set_option linter.unusedVariables false
set_option linter.unusedSimpArgs false
namespace Dec
open Csv

/-- The array of digits, block B of the call's own: from k on it holds the bytes ds. -/
def Arr (w : World) (B k : Nat) (ds : List UInt8) : Prop := ∃ cur : Array Value, w.heap[B]? = some (.cells cur 36 (0, 0)) ∧ cur.size = 20 ∧ cur.toList.drop k = bc ds

theorem Arr.cell {w : World} {B k : Nat} {ds : List UInt8} (h : Arr w B k ds) (j : Nat) (hj : j < ds.length) : w.cell? ⟨B, k + j, none⟩ = some (.int .u8 (ds[j].toNat : Int)) := by
  obtain ⟨cur, hg, hs, hd⟩ := h
  rw [cell_of_row w B (k + j) cur 36 (0, 0) hg]
  have e : (cur.toList.drop k)[j]? = (bc ds)[j]? := by rw [hd]
  rw [List.getElem?_drop, bc_at ds j hj] at e
  simpa using e
theorem Arr.any {w : World} {B k : Nat} {ds : List UInt8} (h : Arr w B k ds) (j : Nat) (hj : j < 20) : (∃ v, w.cell? ⟨B, j, none⟩ = some v) ∧ w.frozen? ⟨B, j, none⟩ = false := by
  obtain ⟨cur, hg, hs, hd⟩ := h
  refine ⟨?_, frozen_of_row w B j cur 36 hg⟩
  rw [cell_of_row w B j cur 36 (0, 0) hg, Array.getElem?_eq_getElem (by omega)]
  exact ⟨_, rfl⟩
theorem Arr.store {w : World} {B k : Nat} {ds : List UInt8} (h : Arr w B (k + 1) ds) (hk : k < 20) (c : UInt8) (v : Value) (hv : v = .int .u8 (c.toNat : Int)) : Arr (w.setCell ⟨B, k, none⟩ v) B k (c :: ds) := by
  obtain ⟨cur, hg, hs, hd⟩ := h
  refine ⟨cur.setIfInBounds k v, heap_setCell_same w B k cur 36 v hg, by simpa using hs, ?_⟩
  rw [Array.toList_setIfInBounds, List.drop_eq_getElem_cons (by simp; omega)]
  have e1 : (cur.toList.set k v).drop (k + 1) = cur.toList.drop (k + 1) := by
    rw [List.drop_set_of_lt (by omega)]
  rw [e1, hd]
  simp [bc, hv]
theorem Arr.block {w w' : World} {B k : Nat} {ds : List UInt8} (h : Arr w B k ds) (hb : w'.heap[B]? = w.heap[B]?) : Arr w' B k ds := by
  obtain ⟨cur, hg, r⟩ := h
  exact ⟨cur, hb.trans hg, r⟩
theorem Arr.lt {w : World} {B k : Nat} {ds : List UInt8} (h : Arr w B k ds) : B < w.heap.size := by
  obtain ⟨cur, hg, r⟩ := h
  exact (Array.getElem?_eq_some_iff.1 hg).1
theorem Arr.kept {w w' : World} {B k : Nat} {ds : List UInt8} {row : Option Nat} (h : Arr w B k ds) (hg : w.grownBy w' row) (hne : some B ≠ row) : Arr w' B k ds := h.block (hg.block B h.lt hne)
theorem Arr.alloc {w : World} {B k : Nat} {ds : List UInt8} (h : Arr w B k ds) (o : Obj) : Arr (w.alloc o) B k ds := h.kept (World.grownBy_alloc w o none) (by simp)

/-- What the loop of digits keeps at its head. -/
structure Dg (w : World) (X : Nat) (wr : World) (j : Nat) (a : Int) (ds : List UInt8) : Prop where
  arr : Arr wr w.heap.size (j + 1) ds
  dig : Pl.AllDig ds
  len : ds.length + j = 19
  val : ∃ acc : Nat, a = (acc : Int) ∧ acc < 10 ^ (j + 1) ∧ X = acc * 10 ^ ds.length + Pl.dval ds
  bel : Below w.heap.size w wr
/-- .. and what it leaves. -/
structure DgEnd (w : World) (X : Nat) (wr : World) (j : Nat) (ds : List UInt8) : Prop where
  arr : Arr wr w.heap.size j ds
  dig : Pl.AllDig ds
  len : ds.length + j = 20
  val : X = Pl.dval ds
  bel : Below w.heap.size w wr

theorem pow20 : (10 : Nat) ^ 20 = 100000000000000000000 := by decide
theorem dg_start (w : World) (X : Nat) (hX : X ≤ 9223372036854775808) (cur : Array Value) (hc : cur.size = 20) : Dg w X (w.alloc (.cells cur 36)) 19 (X : Int) [] := by
  refine ⟨⟨cur, heap_alloc_new w _, hc, ?_⟩, (fun c h => by cases h), rfl, ⟨X, rfl, ?_, by simp [Pl.dval]⟩, (Below.refl _ _).alloc (Nat.le_refl _) _⟩
  · rw [List.drop_eq_nil_of_le (by simp; omega)]; rfl
  · have := pow20; omega
theorem dg_bound {w wr : World} {X j : Nat} {a : Int} {ds : List UInt8} (h : Dg w X wr j a ds) (hX : X ≤ 9223372036854775808) : 0 ≤ a ∧ a ≤ 9223372036854775808 := by
  obtain ⟨acc, rfl, h1, h2⟩ := h.val
  have : acc ≤ acc * 10 ^ ds.length := Nat.le_mul_of_pos_right _ (Nat.pow_pos (by decide))
  omega
/-- The digit that is laid. -/
def dgt (a : Int) : UInt8 := UInt8.ofNat (48 + (a % 10).toNat)
theorem dgt_nat (a : Int) : (dgt a).toNat = 48 + (a % 10).toNat := by
  unfold dgt
  rw [UInt8.toNat_ofNat']
  omega
theorem dgt_int (a : Int) : Value.int .u8 (48 + a % 10) = .int .u8 ((dgt a).toNat : Int) := by
  rw [dgt_nat]
  congr 1
  omega
theorem alldig_cons {c : UInt8} {ds : List UInt8} (h : Pl.AllDig ds) (hc : 48 ≤ c.toNat ∧ c.toNat ≤ 57) : Pl.AllDig (c :: ds) := by
  intro x hx
  rcases List.mem_cons.1 hx with rfl | hx
  · exact hc
  · exact h x hx
theorem dval_cons (acc : Nat) (ds : List UInt8) : Pl.dval (dgt (acc : Int) :: ds) = (acc % 10) * 10 ^ ds.length + Pl.dval ds := by
  rw [Pl.dval, dgt_nat]
  congr 2
  omega
theorem dg_done {w wr : World} {X j : Nat} {a : Int} {ds : List UInt8} (h : Dg w X wr j a ds) (hz : a / 10 = 0) : DgEnd w X (wr.setCell ⟨w.heap.size, j, none⟩ (.int .u8 (48 + a % 10))) j (dgt a :: ds) := by
  obtain ⟨acc, rfl, h1, h2⟩ := h.val
  have hl := h.len
  refine ⟨h.arr.store (by omega) (dgt acc) _ (dgt_int _), alldig_cons h.dig (by rw [dgt_nat]; omega), by simp; omega, ?_, h.bel.setCell (Nat.le_refl _) _⟩
  rw [dval_cons, h2]
  have : acc % 10 = acc := by omega
  rw [this]
theorem dg_next {w wr : World} {X j : Nat} {a : Int} {ds : List UInt8} (h : Dg w X wr j a ds) (hz : ¬ a / 10 = 0) : 1 ≤ j ∧ Dg w X (wr.setCell ⟨w.heap.size, j, none⟩ (.int .u8 (48 + a % 10))) (j - 1) (a / 10) (dgt a :: ds) := by
  obtain ⟨acc, rfl, h1, h2⟩ := h.val
  have hl := h.len
  have hj : 1 ≤ j := by
    rcases Nat.eq_zero_or_pos j with rfl | h
    · simp at h1; omega
    · exact h
  refine ⟨hj, ?_⟩
  have ej : j - 1 + 1 = j := by omega
  refine ⟨by rw [ej]; exact h.arr.store (by omega) (dgt acc) _ (dgt_int _), alldig_cons h.dig (by rw [dgt_nat]; omega), by simp; omega, ⟨acc / 10, by omega, ?_, ?_⟩, h.bel.setCell (Nat.le_refl _) _⟩
  · rw [ej]
    rw [Nat.pow_succ] at h1
    omega
  · rw [dval_cons, h2, List.length_cons, Nat.pow_succ]
    have e : acc = 10 * (acc / 10) + acc % 10 := by omega
    have : acc * 10 ^ ds.length = acc / 10 * (10 ^ ds.length * 10) + acc % 10 * 10 ^ ds.length := by
      conv => lhs; rw [e, Nat.add_mul]
      congr 1
      rw [Nat.mul_comm 10, Nat.mul_assoc, Nat.mul_comm 10]
    omega

/-- 'digits[j:]'. -/
theorem slice_arr (B j : Nat) (hj : j ≤ 19) (w : World) : (Instr.sliceAt 36 (.pointer (some ⟨B, 0, none⟩)) (some (.int .i64 (j : Int))) none none).run Tryd.prog w = .ok (.slice (some ⟨B, j, none⟩) (20 - j) (20 - j)) w := by
  have hs : (sizeOf 5).run Tryd.prog w = .ok 1 w := by kernel_rfl
  have h1 : ¬ (20 = j) := by omega
  have h2 : (j : Int) ≤ 20 := by omega
  simp [Instr.sliceAt, run_underlying Tryd.underlying36, Instr.sureAddr, Instr.sliceBounds, Instr.sliceBound, asIntOf, hs, h1, h2, Addr.add_lit]
  intro h; omega

/-- What the loop of zeros keeps. -/
structure Zr (w : World) (sg ds : List UInt8) (j : Nat) (wr : World) (k g cap n : Nat) : Prop where
  n : n = (sg ++ List.replicate k 48).length
  b : Byt wr 5 g cap (sg ++ List.replicate k 48)
  g : w.heap.size < g
  arr : Arr wr w.heap.size j ds
  bel : Below w.heap.size w wr
theorem zr_len {w wr : World} {sg ds : List UInt8} {j k g cap n : Nat} (h : Zr w sg ds j wr k g cap n) (hs : sg.length ≤ 1) : n ≤ 1 + k := by
  rw [h.n]; simp; omega
theorem zr_start {w wr w0 : World} {X j : Nat} {ds : List UInt8} {c : Nat} {v : Value} (h : DgEnd w X (wr.setCell ⟨w.heap.size, j, none⟩ v) j ds) (hown : w0.ownsRow 0 5 1 (.slice (some ⟨wr.heap.size, 0, none⟩) 0 c) 0 []) (hgr : (wr.setCell ⟨w.heap.size, j, none⟩ v).grownBy w0 none) :
    Zr w [] ds j w0 0 wr.heap.size c 0 := by
  have hlt := h.arr.lt
  have hs : (wr.setCell ⟨w.heap.size, j, none⟩ v).heap.size = wr.heap.size := by simp [World.setCell]
  rw [hs] at hlt
  exact ⟨rfl, hown, hlt, h.arr.kept hgr (by simp), h.bel.grown hgr (by rw [hs]; omega) (fun k e => by cases e)⟩
theorem zr_app {w wr w1 : World} {sg ds ns : List UInt8} {j k g cap n g1 cap1 : Nat} {o : Obj} (h : Zr w sg ds j wr k g cap n) (hb : Byt w1 5 g1 cap1 (sg ++ List.replicate k 48 ++ ns)) (hgr : (wr.alloc o).grownBy w1 (some g)) (hg1 : g1 = g ∨ wr.heap.size + 1 ≤ g1) :
    w.heap.size < g1 ∧ Arr w1 w.heap.size j ds ∧ Below w.heap.size w w1 := by
  have hs := h.bel.size
  have hg := h.g
  have hlt := h.b.lt
  refine ⟨by omega, (h.arr.alloc o).kept hgr (by intro e; injection e with e; omega), ?_⟩
  exact (h.bel.alloc hs o).grown hgr (by simp; omega) (fun k e => by cases e; omega)
theorem zr_sign {w wr w1 : World} {ds : List UInt8} {j g cap g1 cap1 : Nat} {o : Obj} {c : UInt8} (h : Zr w [] ds j wr 0 g cap 0) (hb : Byt w1 5 g1 cap1 [c]) (hgr : (wr.alloc o).grownBy w1 (some g)) (hg1 : g1 = g ∨ wr.heap.size + 1 ≤ g1) :
    Zr w [c] ds j w1 0 g1 cap1 1 := by
  obtain ⟨a, b, d⟩ := zr_app (ns := [c]) h hb hgr hg1
  exact ⟨rfl, hb, a, b, d⟩
theorem zr_step {w wr w1 : World} {sg ds : List UInt8} {j k g cap n g1 cap1 : Nat} {o : Obj} (h : Zr w sg ds j wr k g cap n) (hb : Byt w1 5 g1 cap1 (sg ++ (List.replicate k 48 ++ [48]))) (hgr : (wr.alloc o).grownBy w1 (some g)) (hg1 : g1 = g ∨ wr.heap.size + 1 ≤ g1) :
    Zr w sg ds j w1 (k + 1) g1 cap1 (n + 1) := by
  have e : sg ++ List.replicate (k + 1) 48 = sg ++ (List.replicate k 48 ++ [48]) := by rw [List.replicate_succ']
  obtain ⟨a, b, d⟩ := zr_app (ns := [48]) h (by rw [List.append_assoc]; exact hb) hgr hg1
  exact ⟨by rw [h.n]; simp; omega, by rw [e]; exact hb, a, b, d⟩

/-- What csvDecimal hands back: a row of its own with the sign, the zeros, the digits. -/
def Out (w : World) (sg : List UInt8) (z X : Nat) (e : Ending) (w' : World) : Prop :=
  ∃ g cap n ds, e = .returned (.slice (some ⟨g, 0, none⟩) n cap) ∧ n = (sg ++ (List.replicate z 48 ++ ds)).length ∧ Byt w' 5 g cap (sg ++ (List.replicate z 48 ++ ds)) ∧ w.heap.size ≤ g ∧ Below w.heap.size w w' ∧ Pl.AllDig ds ∧ 1 ≤ ds.length ∧ ds.length ≤ 20 ∧ Pl.dval ds = X
/-- What the digits are. -/
structure Good (X : Nat) (ds : List UInt8) (j : Nat) : Prop where
  dig : Pl.AllDig ds
  len : ds.length + j = 20
  val : X = Pl.dval ds
theorem zr_out {w wr w1 : World} {sg ds : List UInt8} {X j z k g cap n g1 cap1 m : Nat} (h : Zr w sg ds j wr k g cap n) (hk : k = z) (hd : Good X ds j) (hj : j ≤ 19) (hm : m = ds.length) (hb : Byt w1 5 g1 cap1 (sg ++ (List.replicate k 48 ++ ds))) (hgr : wr.grownBy w1 (some g)) (hg1 : g1 = g ∨ wr.heap.size ≤ g1) :
    Out w sg z X (.returned (.slice (some ⟨g1, 0, none⟩) (n + m) cap1)) w1 := by
  subst hk
  have hs := h.bel.size
  have hg := h.g
  have hl := hd.len
  refine ⟨g1, cap1, n + m, ds, rfl, by rw [h.n, hm]; simp; omega, hb, by omega, h.bel.grown hgr hs (fun k e => by cases e; omega), hd.dig, by omega, by omega, hd.val.symm⟩
theorem arr_src {w : World} {B k : Nat} {ds : List UInt8} (h : Arr w B k ds) : ∀ j (hj : j < ds.length), w.cell? ((⟨B, k, none⟩ : Addr).add j) = some (.int .u8 (ds[j].toNat : Int)) := by
  intro j hj
  rw [Addr.add_lit]
  exact h.cell j hj

set_option maxRecDepth 100000 in
set_option maxHeartbeats 1000000 in
theorem dec_plain (x : Int) (X z : Nat) (w : World) (hz : z ≤ 65536) (hx : 0 ≤ x) (hx2 : x ≤ 9223372036854775807) (hX : x = (X : Int)) (hXb : X ≤ 9223372036854775808) :
    Calls Tryd.prog 10 #[.int .i64 x, .bool false, .int .i64 z] w fun e w' => Out w [] z X e w' := by
  have HX := hid hX
  have HXb := hid hXb
  clear hX hXb
  have hxd : decide (x < 0) = false := by simp; omega
  obtain ⟨i0, hi, hz0, hz1, hz2⟩ := info_parts (show (Tryd.prog.info? 5).map (fun i => (i.zero, i.size, i.bytes)) = some (some (.int .u8 0), 1, 1) by kernel_rfl)
  go_enter Tryd.func10, Tryd.ntmps10
  go_wp2
  go_loopw [7, 9] (fun m k wr => ∃ (j : Nat) (a : Int) (ds : List UInt8), j ≤ 19 ∧ m = .int .u64 a ∧ k = .int .i64 ((j : Int) + 1) ∧ Dg w X wr j a ds) (fun _ k _ => (intOf k).toNat)
  case atStart => exact ⟨19, x, [], by omega, rfl, rfl, HX.out ▸ dg_start w X HXb.out _ rfl⟩
  case round =>
    obtain ⟨j, a, ds, hj, rfl, rfl, hd⟩ := hrel
    have hab := dg_bound hd HXb.out
    obtain ⟨⟨v0, hc0⟩, hf0⟩ := hd.arr.any j (by omega)
    by_cases hq : a / 10 = 0
    · have hq' : (a / 10 == 0) = true := beq_iff_eq.2 hq
      have hE := dg_done hd hq
      have hG : Good X (dgt a :: ds) j := ⟨hE.dig, hE.len, hE.val⟩
      clear hq hd
      have hgs := hE.bel.size
      generalize dgt a :: ds = dd at hE hG
      go_wp2_with (at_make; refine wpList_make_own _ rfl _ _ 22 rfl 0 5 i0 (.int .u8 0) 1 Tryd.underlying22 hi hz0 hz1 _ _ _ (1 + z + 20 - j) rfl rfl (by omega) (by rw [hz2]; omega) (by unfold maxLen; omega) (Nat.zero_le _) ?_)
      intro w0 hown0 hgrow0
      have hZ := zr_start hE hown0 hgrow0
      clear hE hown0 hgrow0 hc0 hf0
      go_wp2
      go_loopw [10, 11] (fun v i wr => ∃ k g cap n : Nat, k ≤ z ∧ i = .int .i64 k ∧ v = .slice (some ⟨g, 0, none⟩) n cap ∧ Zr w [] dd j wr k g cap n) (fun _ i _ => z - (intOf i).toNat)
      case atStart => exact ⟨0, _, _, _, Nat.zero_le _, rfl, rfl, hZ⟩
      case round =>
        obtain ⟨k, g, cap, n, hk, rfl, rfl, hR⟩ := hrel
        have hnl := zr_len hR (by simp)
        by_cases hlt : k < z
        · go_wp2_with (at_builtin; refine wpList_append_byt _ rfl (.tmp 51) (.tmp 52) 22 rfl 5 i0 Tryd.underlying22 hi hz0 hz1 hz2 g cap n ([] ++ List.replicate k 48) rfl hR.n (hR.b.alloc _) _ 1 1 [48] rfl rfl (one_new _ _ 48 _ rfl) (by have := hR.n; simp only [List.length_cons, List.length_nil]; omega) ?_)
          intro g1 cap1 w1 hb1 hgr1 hg1
          have hR1 := zr_step hR (by simpa using hb1) hgr1 hg1
          clear hb1 hgr1 hg1 hR
          go_wp2
          go_roundw
          case rel => exact ⟨k + 1, g1, cap1, n + 1, by omega, by go_num, rfl, hR1⟩
          case measure => simp [intOf]; omega
        · have hlen := hG.len
          have HM : Hid (20 - j = dd.length) := hid (by omega)
          clear hlen
          have hsl := slice_arr w.heap.size j hj wr
          go_wp2_with (at_builtin; refine wpList_append_byt _ rfl (.tmp 54) (.tmp 56) 22 rfl 5 i0 Tryd.underlying22 hi hz0 hz1 hz2 g cap n ([] ++ List.replicate k 48) rfl hR.n hR.b _ (20 - j) (20 - j) dd rfl HM.out (arr_src hR.arr) (by have := hR.n; have := HM.out; omega) ?_)
          intro g1 cap1 w1 hb1 hgr1 hg1
          have hO := hid (zr_out (X := X) (z := z) (m := 20 - j) hR (by omega) hG hj HM.out (by simpa using hb1) hgr1 hg1)
          clear hb1 hgr1 hg1 hR
          go_wp2
          go_ret
          exact hO.out
    · have hq' : (a / 10 == 0) = false := beq_eq_false_iff_ne.2 hq
      obtain ⟨hj1, hN⟩ := dg_next hd hq
      clear hq hd
      go_wp2
      go_roundw
      case rel => exact ⟨j - 1, a / 10, _, by omega, rfl, by go_num, hN⟩
      case measure => (simp [intOf]; try omega)

set_option maxRecDepth 100000 in
set_option maxHeartbeats 1000000 in
theorem dec_plus (x : Int) (X z : Nat) (w : World) (hz : z ≤ 65536) (hx : 0 ≤ x) (hx2 : x ≤ 9223372036854775807) (hX : x = (X : Int)) (hXb : X ≤ 9223372036854775808) :
    Calls Tryd.prog 10 #[.int .i64 x, .bool true, .int .i64 z] w fun e w' => Out w [43] z X e w' := by
  have HX := hid hX
  have HXb := hid hXb
  clear hX hXb
  have hxd : decide (x < 0) = false := by simp; omega
  obtain ⟨i0, hi, hz0, hz1, hz2⟩ := info_parts (show (Tryd.prog.info? 5).map (fun i => (i.zero, i.size, i.bytes)) = some (some (.int .u8 0), 1, 1) by kernel_rfl)
  go_enter Tryd.func10, Tryd.ntmps10
  go_wp2
  go_loopw [7, 9] (fun m k wr => ∃ (j : Nat) (a : Int) (ds : List UInt8), j ≤ 19 ∧ m = .int .u64 a ∧ k = .int .i64 ((j : Int) + 1) ∧ Dg w X wr j a ds) (fun _ k _ => (intOf k).toNat)
  case atStart => exact ⟨19, x, [], by omega, rfl, rfl, HX.out ▸ dg_start w X HXb.out _ rfl⟩
  case round =>
    obtain ⟨j, a, ds, hj, rfl, rfl, hd⟩ := hrel
    have hab := dg_bound hd HXb.out
    obtain ⟨⟨v0, hc0⟩, hf0⟩ := hd.arr.any j (by omega)
    by_cases hq : a / 10 = 0
    · have hq' : (a / 10 == 0) = true := beq_iff_eq.2 hq
      have hE := dg_done hd hq
      have hG : Good X (dgt a :: ds) j := ⟨hE.dig, hE.len, hE.val⟩
      clear hq hd
      have hgs := hE.bel.size
      generalize dgt a :: ds = dd at hE hG
      go_wp2_with (at_make; refine wpList_make_own _ rfl _ _ 22 rfl 0 5 i0 (.int .u8 0) 1 Tryd.underlying22 hi hz0 hz1 _ _ _ (1 + z + 20 - j) rfl rfl (by omega) (by rw [hz2]; omega) (by unfold maxLen; omega) (Nat.zero_le _) ?_)
      intro w0 hown0 hgrow0
      have hZ := zr_start hE hown0 hgrow0
      clear hE hown0 hgrow0 hc0 hf0
      go_wp2_with (at_builtin; refine wpList_append_byt _ rfl (.tmp 43) (.tmp 44) 22 rfl 5 i0 Tryd.underlying22 hi hz0 hz1 hz2 _ _ 0 [] rfl rfl (hZ.b.alloc _) _ 1 1 [43] rfl rfl (one_new _ _ 43 _ rfl) (by simp) ?_)
      intro g1 cap1 w1 hb1 hgr1 hg1
      have hZ' := zr_sign hZ hb1 hgr1 hg1
      clear hZ hb1 hgr1 hg1
      have hZ := hZ'
      clear hZ'
      go_wp2
      go_loopw [10, 11] (fun v i wr => ∃ k g cap n : Nat, k ≤ z ∧ i = .int .i64 k ∧ v = .slice (some ⟨g, 0, none⟩) n cap ∧ Zr w [43] dd j wr k g cap n) (fun _ i _ => z - (intOf i).toNat)
      case atStart => exact ⟨0, _, _, _, Nat.zero_le _, rfl, rfl, hZ⟩
      case round =>
        obtain ⟨k, g, cap, n, hk, rfl, rfl, hR⟩ := hrel
        have hnl := zr_len hR (by simp)
        by_cases hlt : k < z
        · go_wp2_with (at_builtin; refine wpList_append_byt _ rfl (.tmp 51) (.tmp 52) 22 rfl 5 i0 Tryd.underlying22 hi hz0 hz1 hz2 g cap n ([43] ++ List.replicate k 48) rfl hR.n (hR.b.alloc _) _ 1 1 [48] rfl rfl (one_new _ _ 48 _ rfl) (by have := hR.n; simp only [List.length_cons, List.length_nil]; omega) ?_)
          intro g1 cap1 w1 hb1 hgr1 hg1
          have hR1 := zr_step hR (by simpa using hb1) hgr1 hg1
          clear hb1 hgr1 hg1 hR
          go_wp2
          go_roundw
          case rel => exact ⟨k + 1, g1, cap1, n + 1, by omega, by go_num, rfl, hR1⟩
          case measure => simp [intOf]; omega
        · have hlen := hG.len
          have HM : Hid (20 - j = dd.length) := hid (by omega)
          clear hlen
          have hsl := slice_arr w.heap.size j hj wr
          go_wp2_with (at_builtin; refine wpList_append_byt _ rfl (.tmp 54) (.tmp 56) 22 rfl 5 i0 Tryd.underlying22 hi hz0 hz1 hz2 g cap n ([43] ++ List.replicate k 48) rfl hR.n hR.b _ (20 - j) (20 - j) dd rfl HM.out (arr_src hR.arr) (by have := hR.n; have := HM.out; omega) ?_)
          intro g1 cap1 w1 hb1 hgr1 hg1
          have hO := hid (zr_out (X := X) (z := z) (m := 20 - j) hR (by omega) hG hj HM.out (by simpa using hb1) hgr1 hg1)
          clear hb1 hgr1 hg1 hR
          go_wp2
          go_ret
          exact hO.out
    · have hq' : (a / 10 == 0) = false := beq_eq_false_iff_ne.2 hq
      obtain ⟨hj1, hN⟩ := dg_next hd hq
      clear hq hd
      go_wp2
      go_roundw
      case rel => exact ⟨j - 1, a / 10, _, by omega, rfl, by go_num, hN⟩
      case measure => (simp [intOf]; try omega)

set_option maxRecDepth 100000 in
set_option maxHeartbeats 1000000 in
theorem dec_minus (x : Int) (plus : Bool) (X z : Nat) (w : World) (hz : z ≤ 65536) (hx : x < 0) (hx2 : -9223372036854775808 ≤ x) (hX : (-x) = (X : Int)) (hXb : X ≤ 9223372036854775808) :
    Calls Tryd.prog 10 #[.int .i64 x, .bool plus, .int .i64 z] w fun e w' => Out w [45] z X e w' := by
  have HX := hid hX
  have HXb := hid hXb
  clear hX hXb
  have hxd : decide (x < 0) = true := by simp; omega
  have hng := Neg.neg_u64 x hx hx2
  obtain ⟨i0, hi, hz0, hz1, hz2⟩ := info_parts (show (Tryd.prog.info? 5).map (fun i => (i.zero, i.size, i.bytes)) = some (some (.int .u8 0), 1, 1) by kernel_rfl)
  go_enter Tryd.func10, Tryd.ntmps10
  go_wp2
  go_loopw [7, 9] (fun m k wr => ∃ (j : Nat) (a : Int) (ds : List UInt8), j ≤ 19 ∧ m = .int .u64 a ∧ k = .int .i64 ((j : Int) + 1) ∧ Dg w X wr j a ds) (fun _ k _ => (intOf k).toNat)
  case atStart => exact ⟨19, (-x), [], by omega, rfl, rfl, HX.out ▸ dg_start w X HXb.out _ rfl⟩
  case round =>
    obtain ⟨j, a, ds, hj, rfl, rfl, hd⟩ := hrel
    have hab := dg_bound hd HXb.out
    obtain ⟨⟨v0, hc0⟩, hf0⟩ := hd.arr.any j (by omega)
    by_cases hq : a / 10 = 0
    · have hq' : (a / 10 == 0) = true := beq_iff_eq.2 hq
      have hE := dg_done hd hq
      have hG : Good X (dgt a :: ds) j := ⟨hE.dig, hE.len, hE.val⟩
      clear hq hd
      have hgs := hE.bel.size
      generalize dgt a :: ds = dd at hE hG
      go_wp2_with (at_make; refine wpList_make_own _ rfl _ _ 22 rfl 0 5 i0 (.int .u8 0) 1 Tryd.underlying22 hi hz0 hz1 _ _ _ (1 + z + 20 - j) rfl rfl (by omega) (by rw [hz2]; omega) (by unfold maxLen; omega) (Nat.zero_le _) ?_)
      intro w0 hown0 hgrow0
      have hZ := zr_start hE hown0 hgrow0
      clear hE hown0 hgrow0 hc0 hf0
      go_wp2_with (at_builtin; refine wpList_append_byt _ rfl (.tmp 39) (.tmp 40) 22 rfl 5 i0 Tryd.underlying22 hi hz0 hz1 hz2 _ _ 0 [] rfl rfl (hZ.b.alloc _) _ 1 1 [45] rfl rfl (one_new _ _ 45 _ rfl) (by simp) ?_)
      intro g1 cap1 w1 hb1 hgr1 hg1
      have hZ' := zr_sign hZ hb1 hgr1 hg1
      clear hZ hb1 hgr1 hg1
      have hZ := hZ'
      clear hZ'
      go_wp2
      go_loopw [10, 11] (fun v i wr => ∃ k g cap n : Nat, k ≤ z ∧ i = .int .i64 k ∧ v = .slice (some ⟨g, 0, none⟩) n cap ∧ Zr w [45] dd j wr k g cap n) (fun _ i _ => z - (intOf i).toNat)
      case atStart => exact ⟨0, _, _, _, Nat.zero_le _, rfl, rfl, hZ⟩
      case round =>
        obtain ⟨k, g, cap, n, hk, rfl, rfl, hR⟩ := hrel
        have hnl := zr_len hR (by simp)
        by_cases hlt : k < z
        · go_wp2_with (at_builtin; refine wpList_append_byt _ rfl (.tmp 51) (.tmp 52) 22 rfl 5 i0 Tryd.underlying22 hi hz0 hz1 hz2 g cap n ([45] ++ List.replicate k 48) rfl hR.n (hR.b.alloc _) _ 1 1 [48] rfl rfl (one_new _ _ 48 _ rfl) (by have := hR.n; simp only [List.length_cons, List.length_nil]; omega) ?_)
          intro g1 cap1 w1 hb1 hgr1 hg1
          have hR1 := zr_step hR (by simpa using hb1) hgr1 hg1
          clear hb1 hgr1 hg1 hR
          go_wp2
          go_roundw
          case rel => exact ⟨k + 1, g1, cap1, n + 1, by omega, by go_num, rfl, hR1⟩
          case measure => simp [intOf]; omega
        · have hlen := hG.len
          have HM : Hid (20 - j = dd.length) := hid (by omega)
          clear hlen
          have hsl := slice_arr w.heap.size j hj wr
          go_wp2_with (at_builtin; refine wpList_append_byt _ rfl (.tmp 54) (.tmp 56) 22 rfl 5 i0 Tryd.underlying22 hi hz0 hz1 hz2 g cap n ([45] ++ List.replicate k 48) rfl hR.n hR.b _ (20 - j) (20 - j) dd rfl HM.out (arr_src hR.arr) (by have := hR.n; have := HM.out; omega) ?_)
          intro g1 cap1 w1 hb1 hgr1 hg1
          have hO := hid (zr_out (X := X) (z := z) (m := 20 - j) hR (by omega) hG hj HM.out (by simpa using hb1) hgr1 hg1)
          clear hb1 hgr1 hg1 hR
          go_wp2
          go_ret
          exact hO.out
    · have hq' : (a / 10 == 0) = false := beq_eq_false_iff_ne.2 hq
      obtain ⟨hj1, hN⟩ := dg_next hd hq
      clear hq hd
      go_wp2
      go_roundw
      case rel => exact ⟨j - 1, a / 10, _, by omega, rfl, by go_num, hN⟩
      case measure => (simp [intOf]; try omega)

end Dec
end Go.Proofs.Qxb6619417aDoor
