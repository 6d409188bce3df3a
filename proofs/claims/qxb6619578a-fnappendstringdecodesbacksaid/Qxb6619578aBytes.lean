/-
  ROWS OF BYTES THAT THE CALL ITSELF MAKES: 'Byt w e g cap l': block g holds the bytes l, with room for cap. The kit's laws on append, make and conversions once more, in these words.
-/
import Derived.WalkKit
import Derived.Lib.AppendStr
import Derived.Laws.IdiomStrings
import Derived.Laws.CopyRow
namespace Go.Proofs.Qxb6619578a
open Go.RowKit
set_option linter.unusedVariables false
set_option linter.unusedSimpArgs false

/-- Bytes as cells. -/
def bc (l : List UInt8) : List Value := l.map fun b => Value.int .u8 b.toNat
theorem bc_length (l : List UInt8) : (bc l).length = l.length := by simp [bc]
theorem bc_append (l m : List UInt8) : bc (l ++ m) = bc l ++ bc m := by simp [bc]
theorem bc_one (l : List UInt8) : ∀ u ∈ bc l, u.oneCell' = true := by
  intro u hu
  simp only [bc, List.mem_map] at hu
  obtain ⟨b, _, rfl⟩ := hu
  rfl
theorem bc_at (l : List UInt8) (j : Nat) (h : j < l.length) : (bc l)[j]? = some (.int .u8 (l[j].toNat : Int)) := by simp [bc, h]
theorem strCells_bc (s : ByteArray) : Lib.strCells s = bc s.data.toList := rfl

/-- Block g holds the bytes l at its head, with room for cap; it is not frozen. -/
def Byt (w : World) (e g cap : Nat) (l : List UInt8) : Prop := w.ownsRow 0 e 1 (.slice (some ⟨g, 0, none⟩) l.length cap) l.length (bc l)

namespace Byt
variable {w w' : World} {e g cap : Nat} {l : List UInt8}

theorem cell (h : Byt w e g cap l) (j : Nat) (hj : j < l.length) : w.cell? ⟨g, j, none⟩ = some (.int .u8 (l[j].toNat : Int)) := by
  rw [World.ownsRow.cellAt h j (by omega), bc_at l j hj]
theorem room (h : Byt w e g cap l) : l.length ≤ cap ∧ cap ≤ 9223372036854775807 := by
  rcases h.2 with ⟨h', _⟩ | ⟨g', cap', cur, h', _, hg, h1, h2, _⟩
  · simp at h'
  · simp only [Value.slice.injEq, Option.some.injEq, Addr.mk.injEq, and_true, true_and] at h'
    obtain ⟨rfl, rfl⟩ := h'
    unfold maxLen at h2
    exact ⟨h1, h2⟩
theorem lt (h : Byt w e g cap l) : g < w.heap.size := by
  rcases h.2 with ⟨h', _⟩ | ⟨g', cap', cur, h', _, hg, _⟩
  · simp at h'
  · simp only [Value.slice.injEq, Option.some.injEq, Addr.mk.injEq, and_true, true_and] at h'
    obtain ⟨rfl, rfl⟩ := h'
    exact (Array.getElem?_eq_some_iff.1 hg).1
theorem block (h : Byt w e g cap l) (hb : w'.heap[g]? = w.heap[g]?) : Byt w' e g cap l := by
  obtain ⟨h1, h2⟩ := h
  refine ⟨h1, ?_⟩
  rcases h2 with ⟨h', _⟩ | ⟨g', cap', cur, h', hg0, hg, r⟩
  · simp at h'
  · simp only [Value.slice.injEq, Option.some.injEq, Addr.mk.injEq, and_true, true_and] at h'
    obtain ⟨rfl, rfl⟩ := h'
    exact Or.inr ⟨g, cap, cur, rfl, hg0, hb.trans hg, r⟩
theorem kept {row : Option Nat} (h : Byt w e g cap l) (hg : w.grownBy w' row) (hne : some g ≠ row) : Byt w' e g cap l :=
  h.block (hg.block g h.lt hne)
theorem below {B : Nat} (h : Byt w e g cap l) (hb : Below B w w') (hg : g < B) : Byt w' e g cap l := h.block (hb.block g hg)
theorem alloc (h : Byt w e g cap l) (o : Obj) : Byt (w.alloc o) e g cap l := World.ownsRow.alloc h o
theorem drew (h : Byt w e g cap l) : Byt w.drew e g cap l := h
theorem cut (h : Byt w e g cap l) (n : Nat) (hn : n ≤ l.length) : Byt w e g cap (l.take n) := by
  obtain ⟨h1, h2⟩ := h
  refine ⟨by simp [bc_length], ?_⟩
  rcases h2 with ⟨h', _⟩ | ⟨g', cap', cur, h', hg0, hg, r1, r2, r3, r4⟩
  · simp at h'
  · simp only [Value.slice.injEq, Option.some.injEq, Addr.mk.injEq, and_true, true_and] at h'
    obtain ⟨rfl, rfl⟩ := h'
    refine Or.inr ⟨g, cap, cur, rfl, hg0, hg, by simp; omega, r2, r3, ?_⟩
    rw [Nat.mul_one] at r4 ⊢
    have e1 : bc (l.take n) = (bc l).take n := by simp [bc, List.map_take]
    rw [e1, ← r4, List.take_take]
    congr 1
    simp
end Byt

/-- What is made of a grown world, and again. -/
theorem grownBy_trans {a b c : World} {row row' : Option Nat} (h : a.grownBy b row) (k : b.grownBy c row') (hr : ∀ i, row' = some i → row = some i ∨ a.heap.size ≤ i) : a.grownBy c row :=
  ⟨k.os.trans h.os, k.tape.trans h.tape, k.output.trans h.output, Nat.le_trans h.size k.size, fun i hi hne => (k.block i (Nat.lt_of_lt_of_le hi h.size) (fun e => by
    rcases hr i e.symm with h1 | h1
    · exact hne h1.symm
    · omega)).trans (h.block i hi hne)⟩
theorem grownBy_alloc {a b : World} {row : Option Nat} (h : a.grownBy b row) (o : Obj) : a.grownBy (b.alloc o) row :=
  grownBy_trans h (World.grownBy_alloc b o none) (fun i e => by cases e)
theorem grownBy_below {a b : World} {row : Option Nat} (h : a.grownBy b row) {B : Nat} (hB : B ≤ a.heap.size) (hr : ∀ i, row = some i → B ≤ i) : Below B a b :=
  (Below.refl _ _).grown h hB hr
theorem grownBy_refl (w : World) (row : Option Nat) : w.grownBy w row := ⟨rfl, rfl, rfl, Nat.le_refl _, fun _ _ _ => rfl⟩

section
variable {P : Program} (w : World)

/-- 'append(buf, ..)', the new bytes in memory. -/
theorem run_append_byt (t ty e : TypeId) (i : TypeInfo) (ht : P.underlying t = some (.slice e)) (hi : P.info? e = some i) (hz : i.zero = some (.int .u8 0)) (hsize : i.size = 1) (hby : i.bytes = 1)
    (g cap : Nat) (l : List UInt8) (hb : Byt w e g cap l) (ad : Addr) (c : Nat) (ns : List UInt8) (hnews : ∀ j (hj : j < ns.length), w.cell? (ad.add j) = some (.int .u8 (ns[j].toNat : Int)))
    (hbytes : l.length + ns.length ≤ 140737488355328) :
    ∃ g' cap' w', (Builtin.append_ #[t, t] ty #[.slice (some ⟨g, 0, none⟩) l.length cap, .slice (some ad) ns.length c]).run P w = .ok (.slice (some ⟨g', 0, none⟩) (l.length + ns.length) cap') w' ∧
      Byt w' e g' cap' (l ++ ns) ∧ w.grownBy w' (some g) ∧ (g' = g ∨ w.heap.size ≤ g') := by
  have hn1 : (bc ns).length = ns.length * 1 := by rw [bc_length, Nat.mul_one]
  have hn2 : ∀ j u, (bc ns)[j]? = some u → w.cell? (ad.add j) = some u := by
    intro j u hu
    have hj : j < ns.length := by have := (List.getElem?_eq_some_iff.1 hu).1; rwa [bc_length] at this
    rw [bc_at ns j hj] at hu
    rw [hnews j hj]; exact hu
  obtain ⟨v', w', hr, hown', hgr, hnil⟩ := run_append_own (P := P) w 0 t ty e i (.int .u8 0) 1 1 ht hi hz hsize hby rfl (by decide) _ l.length (bc l) hb ad ns.length c (bc ns) hn1 hn2 (bc_one ns) (by unfold maxLen; omega) (by omega) (Nat.zero_le _)
  rw [← bc_append] at hown'
  have hll : l.length + ns.length = (l ++ ns).length := by simp
  by_cases hroom : l.length + ns.length ≤ cap
  · obtain ⟨w2, hr2, hown2, hgr2⟩ := run_append_fits (P := P) w 0 t ty e i 1 ht hi hsize g l.length cap (bc l) hb ad ns.length c (bc ns) hn1 hn2 (bc_one ns) hroom
    rw [← bc_append, hll] at hown2
    exact ⟨g, cap, w2, hr2, hown2, hgr2, Or.inl rfl⟩
  · have holds : ∀ j u, (bc l)[j]? = some u → w.cell? ((⟨g, 0, none⟩ : Addr).add j) = some u := World.ownsRow.cells hb (g := g) rfl
    have hr2 := run_append_grow (P := P) w t ty e i (.int .u8 0) ht hi hz ⟨g, 0, none⟩ l.length cap (bc l) (by rw [hsize, bc_length, Nat.mul_one]) holds ad ns.length c (bc ns) (by rw [hsize]; exact hn1) hn2 (by omega) (by omega) (growslice_fits (by omega) (by rw [hby]; omega))
    rw [hr2] at hr
    cases hr
    refine ⟨w.heap.size, _, _, hr2, ?_, hgr, Or.inr (Nat.le_refl _)⟩
    unfold Byt
    rw [← hll]; exact hown'

theorem wpList_append_byt {ops : Array Oper} {rest : List Oper} {o : Oper} {a : Act} {Q : Exit → Act → World → Prop} (hgd : o.guard = none) (s x : Operand) (t : TypeId)
    (ho : o.op = .call { callee := .builtin .append, args := #[s, x], argTypes := #[t, t] })
    (e : TypeId) (i : TypeInfo) (ht : P.underlying t = some (.slice e)) (hi : P.info? e = some i) (hz : i.zero = some (.int .u8 0)) (hsize : i.size = 1) (hby : i.bytes = 1)
    (g cap n : Nat) (l : List UInt8) (hs : a.eval s = .slice (some ⟨g, 0, none⟩) n cap) (hn : n = l.length) (hb : Byt w e g cap l) (ad : Addr) (c m : Nat) (ns : List UInt8) (hx : a.eval x = .slice (some ad) m c) (hm : m = ns.length)
    (hnews : ∀ j (hj : j < ns.length), w.cell? (ad.add j) = some (.int .u8 (ns[j].toNat : Int))) (hbytes : l.length + ns.length ≤ 140737488355328)
    (h : ∀ g' cap' w', Byt w' e g' cap' (l ++ ns) → w.grownBy w' (some g) → (g' = g ∨ w.heap.size ≤ g') → wpList P ops Q rest (a.put o.dst (.slice (some ⟨g', 0, none⟩) (n + m) cap')) w') : wpList P ops Q (o :: rest) a w := by
  subst hn hm
  refine wpList_plain hgd fun K hK => ?_
  obtain ⟨g', cap', w', hr, h2, h3, h4⟩ := run_append_byt (P := P) w t o.type e i ht hi hz hsize hby g cap l hb ad c ns hnews hbytes
  unfold Oper.wp execOp
  simp only [ho, resolve, invoke, builtin, Sem.run_bind, Sem.run_pure, Result.andThen_ok, List.map_toArray, List.map_cons, List.map_nil, hs, hx, hr]
  exact hK _ _ (h g' cap' w' h2 h3 h4)

/-- 'append(nil, ..)', the new bytes in memory: at least one. -/
theorem wpList_append_nil_byt {ops : Array Oper} {rest : List Oper} {o : Oper} {a : Act} {Q : Exit → Act → World → Prop} (hgd : o.guard = none) (s x : Operand) (t : TypeId)
    (ho : o.op = .call { callee := .builtin .append, args := #[s, x], argTypes := #[t, t] })
    (e : TypeId) (i : TypeInfo) (ht : P.underlying t = some (.slice e)) (hi : P.info? e = some i) (hz : i.zero = some (.int .u8 0)) (hsize : i.size = 1) (hby : i.bytes = 1)
    (hs : a.eval s = .slice none 0 0) (ad : Addr) (c m : Nat) (ns : List UInt8) (hx : a.eval x = .slice (some ad) m c) (hm : m = ns.length) (hpos : 0 < ns.length)
    (hnews : ∀ j (hj : j < ns.length), w.cell? (ad.add j) = some (.int .u8 (ns[j].toNat : Int))) (hbytes : ns.length ≤ 140737488355328)
    (h : ∀ cap' w', Byt w' e w.heap.size cap' ns → w.grownBy w' none → wpList P ops Q rest (a.put o.dst (.slice (some ⟨w.heap.size, 0, none⟩) m cap')) w') : wpList P ops Q (o :: rest) a w := by
  subst hm
  refine wpList_plain hgd fun K hK => ?_
  have hn1 : (bc ns).length = ns.length * 1 := by rw [bc_length, Nat.mul_one]
  have hn2 : ∀ j u, (bc ns)[j]? = some u → w.cell? (ad.add j) = some u := by
    intro j u hu
    have hj : j < ns.length := by have := (List.getElem?_eq_some_iff.1 hu).1; rwa [bc_length] at this
    rw [bc_at ns j hj] at hu
    rw [hnews j hj]; exact hu
  obtain ⟨v', w', hr, hown', hgr, hnil⟩ := run_append_own (P := P) w 0 t o.type e i (.int .u8 0) 1 1 ht hi hz hsize hby rfl (by decide) _ 0 [] (World.ownsRow_nil w 0 e 1) ad ns.length c (bc ns) hn1 hn2 (bc_one ns) (by unfold maxLen; omega) (by omega) (Nat.zero_le _)
  have hr2 := run_append_nil (P := P) w t o.type e i (.int .u8 0) ht hi hz ad ns.length c (bc ns) (by rw [hsize]; exact hn1) hn2 hpos (by omega) (by rw [hby]; omega)
  rw [hr2] at hr
  cases hr
  unfold Oper.wp execOp
  simp only [ho, resolve, invoke, builtin, Sem.run_bind, Sem.run_pure, Result.andThen_ok, List.map_toArray, List.map_cons, List.map_nil, hs, hx, hr2]
  simp only [Nat.zero_add, List.nil_append] at hown'
  exact hK _ _ (h _ _ hown' hgr)

/-- 'append(buf, s...)', s a string. -/
theorem run_append_byt_string (t u ty e : TypeId) (i : TypeInfo) (ht : P.underlying t = some (.slice e)) (hu : P.underlying u = some .string) (hi : P.info? e = some i) (hz : i.zero = some (.int .u8 0)) (hsize : i.size = 1) (hby : i.bytes = 1)
    (g cap : Nat) (l : List UInt8) (hb : Byt w e g cap l) (s : ByteArray) (hbytes : l.length + s.size ≤ 140737488355328) :
    ∃ g' cap' w', (Builtin.append_ #[t, u] ty #[.slice (some ⟨g, 0, none⟩) l.length cap, .string s]).run P w = .ok (.slice (some ⟨g', 0, none⟩) (l.length + s.size) cap') w' ∧
      Byt w' e g' cap' (l ++ s.data.toList) ∧ w.grownBy w' (some g) ∧ (g' = g ∨ w.heap.size ≤ g') := by
  obtain ⟨v', w', hr, hown', hgr, hnil⟩ := Lib.run_append_own_string (P := P) w 0 t u ty e i ht hu hi hz hsize hby _ l.length (bc l) hb s (by unfold maxLen; omega) hbytes (Nat.zero_le _)
  rw [strCells_bc, ← bc_append] at hown'
  have hll : l.length + s.size = (l ++ s.data.toList).length := by simp
  rcases hb.2 with ⟨h', _⟩ | ⟨g1, cap1, cur, h', hg0, hg, r1, r2, r3, r4⟩
  · simp at h'
  · simp only [Value.slice.injEq, Option.some.injEq, Addr.mk.injEq, and_true, true_and] at h'
    obtain ⟨rfl, rfl⟩ := h'
    by_cases hroom : l.length + s.size ≤ cap
    · have hr2 := Lib.run_append_room_string (P := P) w t u ty e i ht hu hi hsize g l.length cap cur hg s hroom (by omega)
      rw [hr2] at hr
      cases hr
      refine ⟨g, cap, _, hr2, ?_, hgr, Or.inl rfl⟩
      unfold Byt
      rw [← hll]; exact hown'
    · have holds : ∀ j u, (bc l)[j]? = some u → w.cell? ((⟨g, 0, none⟩ : Addr).add j) = some u := World.ownsRow.cells hb (g := g) rfl
      have hr2 := Lib.run_append_grow_string (P := P) w t u ty e i (.int .u8 0) ht hu hi hz ⟨g, 0, none⟩ l.length cap (bc l) (by rw [hsize, bc_length, Nat.mul_one]) holds s (by omega) (by omega) (growslice_fits (by omega) (by rw [hby]; omega))
      rw [hr2] at hr
      cases hr
      refine ⟨w.heap.size, _, _, hr2, ?_, hgr, Or.inr (Nat.le_refl _)⟩
      unfold Byt
      rw [← hll]; exact hown'

theorem wpList_append_byt_string {ops : Array Oper} {rest : List Oper} {o : Oper} {a : Act} {Q : Exit → Act → World → Prop} (hgd : o.guard = none) (sl x : Operand) (t u : TypeId)
    (ho : o.op = .call { callee := .builtin .append, args := #[sl, x], argTypes := #[t, u] })
    (e : TypeId) (i : TypeInfo) (ht : P.underlying t = some (.slice e)) (hu : P.underlying u = some .string) (hi : P.info? e = some i) (hz : i.zero = some (.int .u8 0)) (hsize : i.size = 1) (hby : i.bytes = 1)
    (g cap n : Nat) (l : List UInt8) (hs : a.eval sl = .slice (some ⟨g, 0, none⟩) n cap) (hn : n = l.length) (hb : Byt w e g cap l) (s : ByteArray) (hx : a.eval x = .string s) (hbytes : l.length + s.size ≤ 140737488355328)
    (h : ∀ g' cap' w', Byt w' e g' cap' (l ++ s.data.toList) → w.grownBy w' (some g) → (g' = g ∨ w.heap.size ≤ g') → wpList P ops Q rest (a.put o.dst (.slice (some ⟨g', 0, none⟩) (n + s.size) cap')) w') : wpList P ops Q (o :: rest) a w := by
  subst hn
  refine wpList_plain hgd fun K hK => ?_
  obtain ⟨g', cap', w', hr, h2, h3, h4⟩ := run_append_byt_string (P := P) w t u o.type e i ht hu hi hz hsize hby g cap l hb s hbytes
  unfold Oper.wp execOp
  simp only [ho, resolve, invoke, builtin, Sem.run_bind, Sem.run_pure, Result.andThen_ok, List.map_toArray, List.map_cons, List.map_nil, hs, hx, hr]
  exact hK _ _ (h g' cap' w' h2 h3 h4)

/-- 'string(buf)'. -/
theorem run_string_byt (src dst e : TypeId) (hs : P.underlying src = some (.slice e)) (he : P.underlying e = some (.int .u8)) (hd : P.underlying dst = some .string) (g cap : Nat) (l : List UInt8) (hb : Byt w e g cap l) (n c : Nat) (hn : n ≤ l.length) :
    (convert src dst (.slice (some ⟨g, 0, none⟩) n c)).run P w = .ok (.string ⟨(l.take n).toArray⟩) w := by
  have hl : (l.take n).length = n := by simp; omega
  have := run_convert_bytes_back (P := P) w src dst e ⟨g, 0, none⟩ c (l.take n) hs he hd (fun j hj => by
    rw [Addr.add_lit, Nat.zero_add]
    exact (hb.cut n hn).cell j hj)
  rw [hl] at this
  exact this
end

/-- A byte laid in a block of its own (the one element of an append). -/
theorem one_new (w : World) (e : TypeId) (b : UInt8) (v : Value) (hv : v = .int .u8 (b.toNat : Int)) : ∀ j (hj : j < [b].length), (w.alloc (.cells #[v] e)).cell? ((⟨w.heap.size, 0, none⟩ : Addr).add j) = some (.int .u8 ([b][j].toNat : Int)) := by
  intro j hj
  simp at hj
  subst hj hv
  simp [Addr.add]

section
variable {P : Program} (w : World)
/-- 'c := make([]byte, len(b)); copy(c, b)': the copy. -/
theorem run_clone (t ty e : TypeId) (ht : P.underlying t = some (.slice e)) (hs : (P.info? e).map (·.size) = some 1) (g n : Nat) (xs : List Value) (hown : w.ownsRow 0 e 1 (.slice (some ⟨g, 0, none⟩) n n) n xs)
    (ad : Addr) (scap : Nat) (l : List UInt8) (hl : l.length = n) (hsrc : ∀ j (hj : j < l.length), w.cell? (ad.add j) = some (.int .u8 (l[j].toNat : Int))) :
    ∃ w1, (Builtin.copy_ #[t, t] ty #[.slice (some ⟨g, 0, none⟩) n n, .slice (some ad) n scap]).run P w = .ok (.int .i64 n) w1 ∧ Byt w1 e g n l ∧ w.grownBy w1 (some g) := by
  rcases hown.2 with ⟨h', _⟩ | ⟨g', cap', cur, h', _, hg, h1, h2, h3, h4⟩
  · simp at h'
  · simp only [Value.slice.injEq, Option.some.injEq, Addr.mk.injEq, and_true, true_and] at h'
    obtain ⟨rfl, rfl⟩ := h'
    have hbl : (bc l).length = n := by rw [bc_length]; exact hl
    have hr := run_copy_row (P := P) w t t ty e g 0 n n ad n scap cur e (bc l) ht hs hg (by rw [hbl]; simp) (fun j v hv => by
      have hj : j < l.length := by have := (List.getElem?_eq_some_iff.1 hv).1; rwa [bc_length] at this
      rw [bc_at l j hj] at hv
      rw [hsrc j hj]; exact hv) (by rw [hbl]; omega) (bc_one l)
    have e1 : (cur.toList.take 0 ++ bc l ++ cur.toList.drop (0 + (bc l).length)).toArray = (bc l).toArray := by
      rw [List.take_zero, List.nil_append, List.drop_eq_nil_of_le (by rw [hbl]; simp; omega), List.append_nil]
    rw [e1, hbl] at hr
    refine ⟨_, hr, ?_, ⟨rfl, rfl, rfl, by simp, fun k _ hk => setRow_other w g k _ (fun e => hk (by simp [e]))⟩⟩
    refine ⟨by simp [bc_length], .inr ⟨g, n, (bc l).toArray, by rw [hl], Nat.zero_le _, setRow_heap w g cur _ e _ hg, by omega, h2, by simp [hbl], ?_⟩⟩
    rw [List.take_of_length_le (by simp [bc_length])]
end
end Go.Proofs.Qxb6619578a
