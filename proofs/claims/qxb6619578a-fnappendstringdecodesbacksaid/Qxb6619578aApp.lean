/-
  THE WALK of appendString.
-/
import Derived.Test.Qxb6619578aRows
import Derived.Test.Qxb6619578aPlain
import Derived.Test.Qxb6619578aBytes
import Derived.Deep.RegionLaw
import Derived.WalkSpells
namespace Go.Proofs.Qxb6619578a
open Go.RowKit
set_option linter.unusedVariables false
set_option linter.unusedSimpArgs false
namespace App
theorem hid {p : Prop} (h : p) : Hid p := h
theorem info5 : (Try.prog.info? 5).map (fun i => (i.zero, i.size, i.bytes)) = some (some (.int .u8 0), 1, 1) := by kernel_rfl

/-! The laws on append once more, what they leave behind names that the walk leaves alone. -/
def Cat (M l ns : List UInt8) : Prop := M = l ++ ns
def CatS (M l : List UInt8) (s : ByteArray) : Prop := M = l ++ s.data.toList
def Len (q : Nat) (M : List UInt8) : Prop := q = M.length
def Near (w : World) (g' g : Nat) : Prop := g' = g ∨ w.heap.size ≤ g'

section
variable {P : Program} {w : World}
theorem wl_append {ops : Array Oper} {rest : List Oper} {o : Oper} {a : Act} {Q : Exit → Act → World → Prop} (hgd : o.guard = none) (s x : Operand) (t : TypeId)
    (ho : o.op = .call { callee := .builtin .append, args := #[s, x], argTypes := #[t, t] })
    (e : TypeId) (i : TypeInfo) (ht : P.underlying t = some (.slice e)) (hi : P.info? e = some i) (hz : i.zero = some (.int .u8 0)) (hsize : i.size = 1) (hby : i.bytes = 1)
    (g cap n : Nat) (l : List UInt8) (hs : a.eval s = .slice (some ⟨g, 0, none⟩) n cap) (hn : Len n l) (hb : Byt w e g cap l) (ad : Addr) (c m : Nat) (ns : List UInt8) (hx : a.eval x = .slice (some ad) m c) (hm : m = ns.length)
    (hnews : ∀ j (hj : j < ns.length), w.cell? (ad.add j) = some (.int .u8 (ns[j].toNat : Int))) (hbytes : n + m ≤ 140737488355328)
    (h : ∀ g' cap' w' q M, Cat M l ns → Len q M → Byt w' e g' cap' M → w.grownBy w' (some g) → Near w g' g → wpList P ops Q rest (a.put o.dst (.slice (some ⟨g', 0, none⟩) q cap')) w') : wpList P ops Q (o :: rest) a w :=
  wpList_append_byt w hgd s x t ho e i ht hi hz hsize hby g cap n l hs hn hb ad c m ns hx hm hnews (by unfold Len at hn; omega)
    (fun g' cap' w' h1 h2 h3 => h g' cap' w' (n + m) (l ++ ns) rfl (by unfold Len at *; rw [List.length_append, ← hn, ← hm]) h1 h2 h3)

theorem wl_append_nil {ops : Array Oper} {rest : List Oper} {o : Oper} {a : Act} {Q : Exit → Act → World → Prop} (hgd : o.guard = none) (s x : Operand) (t : TypeId)
    (ho : o.op = .call { callee := .builtin .append, args := #[s, x], argTypes := #[t, t] })
    (e : TypeId) (i : TypeInfo) (ht : P.underlying t = some (.slice e)) (hi : P.info? e = some i) (hz : i.zero = some (.int .u8 0)) (hsize : i.size = 1) (hby : i.bytes = 1)
    (hs : a.eval s = .slice none 0 0) (ad : Addr) (c m : Nat) (ns : List UInt8) (hx : a.eval x = .slice (some ad) m c) (hm : m = ns.length) (hpos : 0 < ns.length)
    (hnews : ∀ j (hj : j < ns.length), w.cell? (ad.add j) = some (.int .u8 (ns[j].toNat : Int))) (hbytes : m ≤ 140737488355328)
    (h : ∀ g' cap' w' q M, Cat M [] ns → Len q M → Byt w' e g' cap' M → w.grownBy w' none → Near w g' w.heap.size → wpList P ops Q rest (a.put o.dst (.slice (some ⟨g', 0, none⟩) q cap')) w') : wpList P ops Q (o :: rest) a w :=
  wpList_append_nil_byt w hgd s x t ho e i ht hi hz hsize hby hs ad c m ns hx hm hpos hnews (by omega)
    (fun cap' w' h1 h2 => h w.heap.size cap' w' m ns rfl hm h1 h2 (Or.inl rfl))

theorem wl_append_s {ops : Array Oper} {rest : List Oper} {o : Oper} {a : Act} {Q : Exit → Act → World → Prop} (hgd : o.guard = none) (sl x : Operand) (t u : TypeId)
    (ho : o.op = .call { callee := .builtin .append, args := #[sl, x], argTypes := #[t, u] })
    (e : TypeId) (i : TypeInfo) (ht : P.underlying t = some (.slice e)) (hu : P.underlying u = some .string) (hi : P.info? e = some i) (hz : i.zero = some (.int .u8 0)) (hsize : i.size = 1) (hby : i.bytes = 1)
    (g cap n : Nat) (l : List UInt8) (hs : a.eval sl = .slice (some ⟨g, 0, none⟩) n cap) (hn : Len n l) (hb : Byt w e g cap l) (s : ByteArray) (hx : a.eval x = .string s) (hbytes : n + s.size ≤ 140737488355328)
    (h : ∀ g' cap' w' q M, CatS M l s → Len q M → Byt w' e g' cap' M → w.grownBy w' (some g) → Near w g' g → wpList P ops Q rest (a.put o.dst (.slice (some ⟨g', 0, none⟩) q cap')) w') : wpList P ops Q (o :: rest) a w :=
  wpList_append_byt_string w hgd sl x t u ho e i ht hu hi hz hsize hby g cap n l hs hn hb s hx (by unfold Len at hn; omega)
    (fun g' cap' w' h1 h2 h3 => h g' cap' w' (n + s.size) (l ++ s.data.toList) rfl (by unfold Len at *; rw [List.length_append, ← hn]; simp) h1 h2 h3)

/-- The same as one step of a region that draws its order. -/
theorem step_append {ops : Array Oper} {o : Oper} {a : Act} {K : Act → World → Prop} {Q : Exit → Act → World → Prop} {E : Prop} (hgd : o.guard = none) (s x : Operand) (t : TypeId)
    (ho : o.op = .call { callee := .builtin .append, args := #[s, x], argTypes := #[t, t] })
    (e : TypeId) (i : TypeInfo) (ht : P.underlying t = some (.slice e)) (hi : P.info? e = some i) (hz : i.zero = some (.int .u8 0)) (hsize : i.size = 1) (hby : i.bytes = 1)
    (g cap n : Nat) (l : List UInt8) (hs : a.eval s = .slice (some ⟨g, 0, none⟩) n cap) (hn : Len n l) (hb : Byt w e g cap l) (ad : Addr) (c m : Nat) (ns : List UInt8) (hx : a.eval x = .slice (some ad) m c) (hm : m = ns.length)
    (hnews : ∀ j (hj : j < ns.length), w.cell? (ad.add j) = some (.int .u8 (ns[j].toNat : Int))) (hbytes : n + m ≤ 140737488355328)
    (h : ∀ g' cap' w' q M, Cat M l ns → Len q M → Byt w' e g' cap' M → w.grownBy w' (some g) → Near w g' g → K (a.put o.dst (.slice (some ⟨g', 0, none⟩) q cap')) w') :
    if Region.wanted o (yielded ops a.tmps) = true then Oper.wp P o a w K Q else E := by
  have hw : Region.wanted o (yielded ops a.tmps) = true := by simp [Region.wanted, hgd]
  rw [if_pos hw]
  have hn' : n = l.length := hn
  subst hn' hm
  obtain ⟨g', cap', w', hr, h2, h3, h4⟩ := run_append_byt (P := P) w t o.type e i ht hi hz hsize hby g cap l hb ad c ns hnews (by omega)
  unfold Oper.wp
  simp only [execOp, ho, resolve, invoke, builtin, Sem.run_bind, Sem.run_pure, Result.andThen_ok, List.map_toArray, List.map_cons, List.map_nil, hs, hx, hr]
  exact h g' cap' w' _ _ rfl (by unfold Len; simp) h2 h3 h4
end

/-- The frame of what is written so far: w has grown, but for the row that was handed in. -/
structure Fr (w : World) (row : Option Nat) (wr : World) (g : Nat) : Prop where
  gr : w.grownBy wr row
  at_ : row = some g ∨ w.heap.size ≤ g
theorem Fr.step {w wr w1 : World} {row : Option Nat} {g g1 : Nat} (h : Fr w row wr g) (hg : wr.grownBy w1 (some g)) (h1 : Near wr g1 g) : Fr w row w1 g1 := by
  unfold Near at h1
  have hs := h.gr.size
  refine ⟨grownBy_trans h.gr hg (fun i e => ?_), ?_⟩
  · cases e
    exact h.at_
  · rcases h1 with rfl | h1
    · exact h.at_
    · exact Or.inr (by omega)
theorem Fr.alloc {w wr : World} {row : Option Nat} {g : Nat} (h : Fr w row wr g) (o : Obj) : Fr w row (wr.alloc o) g := ⟨grownBy_alloc h.gr o, h.at_⟩

/-- What holds at the loop's head. -/
structure Rel (w : World) (row : Option Nat) (l : List UInt8) (s : ByteArray) (wr : World) (k st g cap n : Nat) (L : List UInt8) : Prop where
  n : Len n L
  b : Byt wr 5 g cap L
  st : Pl.St l s.data.toList k st L
  fr : Fr w row wr g

theorem ext_list (s : ByteArray) (a b : Nat) : (s.extract a b).data.toList = (s.data.toList.take b).drop a := by
  rw [Lib.extract_data, List.drop_take]
theorem ext_size (s : ByteArray) (a b : Nat) : (s.extract a b).size ≤ s.size := by
  rw [ByteArray.size_extract]; omega
theorem size_list (s : ByteArray) : s.data.toList.length = s.size := by simp
theorem u8_lt (c : UInt8) : (0 : Int) ≤ (c.toNat : Int) ∧ (c.toNat : Int) ≤ 255 := by
  have := c.toNat_lt; omega

/-- Two bytes laid in a block of their own. -/
theorem two_new (w : World) (e : TypeId) (b c : UInt8) (v u : Value) (hv : v = .int .u8 (b.toNat : Int)) (hu : u = .int .u8 (c.toNat : Int)) : ∀ j (hj : j < [b, c].length), (w.alloc (.cells #[v, u] e)).cell? ((⟨w.heap.size, 0, none⟩ : Addr).add j) = some (.int .u8 ([b, c][j].toNat : Int)) := by
  intro j hj
  subst hv hu
  match j, hj with
  | 0, _ => simp [Addr.add]
  | 1, _ => simp [Addr.add]
/-- Behind the append of the bytes that go over as they are. -/
structure Mid (w : World) (row : Option Nat) (l : List UInt8) (s : ByteArray) (wr : World) (k g cap n : Nat) (M : List UInt8) : Prop where
  n : Len n M
  b : Byt wr 5 g cap M
  hk : k ≤ s.size
  eq : M = l ++ 34 :: Pl.enc (s.data.toList.take k)
  fr : Fr w row wr g
theorem mid_of {w wr w1 : World} {row : Option Nat} {l L M : List UInt8} {s : ByteArray} {k t g cap n g1 cap1 q : Nat} (h : Rel w row l s wr k t g cap n L) (hc : CatS M L (s.extract t k)) (hq : Len q M) (hb : Byt w1 5 g1 cap1 M) (hgr : wr.grownBy w1 (some g)) (hg1 : Near wr g1 g) :
    Mid w row l s w1 k g1 cap1 q M := by
  refine ⟨hq, hb, by have := h.st.hk; rwa [size_list] at this, ?_, h.fr.step hgr hg1⟩
  unfold CatS at hc
  rw [hc, ext_list, h.st.eq]
theorem mid_len {w wr : World} {row : Option Nat} {l M : List UInt8} {s : ByteArray} {k g cap n : Nat} (h : Mid w row l s wr k g cap n M) : n ≤ l.length + 1 + 6 * k := by
  have e : n = M.length := h.n
  rw [e, h.eq]
  have h2 := Pl.enc_len (s.data.toList.take k)
  have h3 : (s.data.toList.take k).length ≤ k := List.length_take_le _ _
  simp only [List.length_append, List.length_cons]
  omega
theorem rel_esc {w wr w1 : World} {row : Option Nat} {l M M' ns : List UInt8} {s : ByteArray} {k g cap n g1 cap1 q : Nat} {o : Obj} (h : Mid w row l s wr k g cap n M) (hk : k < s.size) (hns : ns = Pl.encB s[k]) (hc : Cat M' M ns) (hq : Len q M') (hb : Byt w1 5 g1 cap1 M') (hgr : (wr.alloc o).grownBy w1 (some g)) (hg1 : Near (wr.alloc o) g1 g) :
    Rel w row l s w1 (k + 1) (k + 1) g1 cap1 q M' := by
  refine ⟨hq, hb, ⟨Nat.le_refl _, by rw [size_list]; omega, ?_⟩, (h.fr.alloc o).step hgr hg1⟩
  unfold Cat at hc
  have hkl : k < s.data.toList.length := by rw [size_list]; exact hk
  have e : s.data.toList[k] = s[k] := rfl
  rw [hc, h.eq, hns, Pl.take_snoc _ k hkl, Pl.enc_snoc, e, List.drop_eq_nil_of_le (by simp; omega)]
  simp
theorem grownBy_drew (w : World) (row : Option Nat) : w.grownBy w.drew row := ⟨rfl, rfl, rfl, Nat.le_refl _, fun _ _ _ => rfl⟩
theorem rel_esc' {w wr wa w1 : World} {row : Option Nat} {l M M' ns : List UInt8} {s : ByteArray} {k g cap n g1 cap1 q : Nat} (h : Mid w row l s wr k g cap n M) (hk : k < s.size) (hns : ns = Pl.encB s[k]) (hwa : wr.grownBy wa none) (hc : Cat M' M ns) (hq : Len q M') (hb : Byt w1 5 g1 cap1 M') (hgr : wa.grownBy w1 (some g)) (hg1 : Near wa g1 g) :
    Rel w row l s w1 (k + 1) (k + 1) g1 cap1 q M' := by
  have hfr : Fr w row wa g := ⟨grownBy_trans h.fr.gr hwa (fun i e => by cases e), h.fr.at_⟩
  refine ⟨hq, hb, ⟨Nat.le_refl _, by rw [size_list]; omega, ?_⟩, hfr.step hgr hg1⟩
  unfold Cat at hc
  have hkl : k < s.data.toList.length := by rw [size_list]; exact hk
  have e : s.data.toList[k] = s[k] := rfl
  rw [hc, h.eq, hns, Pl.take_snoc _ k hkl, Pl.enc_snoc, e, List.drop_eq_nil_of_le (by simp; omega)]
  simp
theorem rel_plain {w wr : World} {row : Option Nat} {l L : List UInt8} {s : ByteArray} {k t g cap n : Nat} (hR : Rel w row l s wr k t g cap n L) (hlt : k < s.size) (h32 : ¬ (s[k].toNat : Int) < 32) (h34 : ((s[k].toNat : Int) != 34) = true) (h92 : ((s[k].toNat : Int) != 92) = true) : Rel w row l s wr (k + 1) t g cap n L := by
  have hkl : k < s.data.toList.length := by rw [size_list]; exact hlt
  have hck : s.data.toList[k] = s[k] := rfl
  exact ⟨hR.n, hR.b, hR.st.plain hkl (by rw [hck]; omega) (by rw [hck]; intro e; rw [e] at h34; exact absurd h34 (by decide)) (by rw [hck]; intro e; rw [e] at h92; exact absurd h92 (by decide)), hR.fr⟩
theorem rel_len {w wr : World} {row : Option Nat} {l L : List UInt8} {s : ByteArray} {k t g cap n : Nat} (h : Rel w row l s wr k t g cap n L) : t ≤ k ∧ k ≤ s.size ∧ n ≤ l.length + 1 + 6 * k := by
  have e : n = L.length := h.n
  have h1 := h.st.hk
  rw [size_list] at h1
  have h2 := h.st.len.1
  exact ⟨h.st.hst, h1, by omega⟩
/-- What appendString leaves. -/
def Out (w : World) (row : Option Nat) (l : List UInt8) (s : ByteArray) (e : Ending) (w' : World) : Prop :=
  ∃ g cap n, e = .returned (.slice (some ⟨g, 0, none⟩) n cap) ∧ Len n (l ++ Pl.quo s.data.toList) ∧ Byt w' 5 g cap (l ++ Pl.quo s.data.toList) ∧ Fr w row w' g
theorem out_of {w wr w1 : World} {row : Option Nat} {l M M' : List UInt8} {s : ByteArray} {k g cap n g1 cap1 q : Nat} {o : Obj} (h : Mid w row l s wr k g cap n M) (hk : ¬ k < s.size) (hc : Cat M' M [34]) (hq : Len q M') (hb : Byt w1 5 g1 cap1 M') (hgr : (wr.alloc o).grownBy w1 (some g)) (hg1 : Near (wr.alloc o) g1 g) :
    Out w row l s (.returned (.slice (some ⟨g1, 0, none⟩) q cap1)) w1 := by
  unfold Cat at hc
  have e : M' = l ++ Pl.quo s.data.toList := by
    rw [hc, h.eq, List.take_of_length_le (by rw [size_list]; omega)]; simp [Pl.quo]
  subst e
  exact ⟨g1, cap1, q, rfl, hq, hb, (h.fr.alloc o).step hgr hg1⟩

theorem and15 : ∀ n : Nat, n < 256 → bits .and .u8 (n : Int) 15 = ((n % 16 : Nat) : Int) := by decide +kernel
theorem hex_at : ∀ i : Nat, (h : i < 16) → (({ data := #[48, 49, 50, 51, 52, 53, 54, 55, 56, 57, 97, 98, 99, 100, 101, 102] } : ByteArray)[i]'h) = Pl.hxd i := by decide +kernel
theorem hex_int (a : Int) (n : Nat) (h : a = (n : Int)) (hn : n < 16) (h' : a.toNat < 16) : Value.int .u8 ((({ data := #[48, 49, 50, 51, 52, 53, 54, 55, 56, 57, 97, 98, 99, 100, 101, 102] } : ByteArray)[a.toNat]'h').toNat : Int) = .int .u8 ((Pl.hxd n).toNat : Int) := by
  subst h
  exact congrArg (fun b : UInt8 => Value.int .u8 (b.toNat : Int)) (hex_at n hn)
/-- The six bytes of an escape, laid in a block of their own. -/
theorem six_new (w : World) (e : TypeId) (b c : UInt8) (v u : Value) (hv : v = .int .u8 (b.toNat : Int)) (hu : u = .int .u8 (c.toNat : Int)) : ∀ j (hj : j < [92, 117, 48, 48, b, c].length), (w.alloc (.cells #[.int .u8 92, .int .u8 117, .int .u8 48, .int .u8 48, v, u] e)).cell? ((⟨w.heap.size, 0, none⟩ : Addr).add j) = some (.int .u8 ([92, 117, 48, 48, b, c][j].toNat : Int)) := by
  intro j hj
  subst hv hu
  match j, hj with
  | 0, _ => simp [Addr.add]
  | 1, _ => simp [Addr.add]
  | 2, _ => simp [Addr.add]
  | 3, _ => simp [Addr.add]
  | 4, _ => simp [Addr.add]
  | 5, _ => simp [Addr.add]

set_option maxRecDepth 100000 in
set_option maxHeartbeats 1000000 in
theorem app_byt (g0 cap0 n0 : Nat) (l : List UInt8) (s : ByteArray) (w : World) (hb0 : Byt w 5 g0 cap0 l) (hn0 : Len n0 l) (hl : l.length ≤ 1048576) (hs : s.size ≤ 1048576) :
    Calls Try.prog 24 #[.slice (some ⟨g0, 0, none⟩) n0 cap0, .string s] w fun e w' => Out w (some g0) l s e w' := by
  obtain ⟨i0, hi, hz0, hz1, hz2⟩ := info_parts info5
  have hn0l : n0 ≤ 1048576 := by unfold Len at hn0; omega
  go_enter Try.func24, Try.ntmps24
  go_wp2_with (at_builtin; refine wl_append rfl (.tmp 8) (.tmp 9) 25 rfl 5 i0 Try.underlying25 hi hz0 hz1 hz2 g0 cap0 n0 l rfl hn0 (hb0.alloc _) _ 1 1 [34] rfl rfl (one_new _ _ 34 _ rfl) (by omega) ?_)
  intro g1 cap1 w1 n1 L1 hc1 hn1 hb1 hgr1 hg1
  have hR1 : Rel w (some g0) l s w1 0 0 g1 cap1 n1 L1 := ⟨hn1, hb1, by unfold Cat at hc1; rw [hc1]; exact Pl.St.start l _, (Fr.alloc ⟨grownBy_refl _ _, Or.inl rfl⟩ _).step hgr1 hg1⟩
  clear hc1 hn1 hb1 hgr1 hg1 hb0 hn0
  go_wp2
  go_loopw [0, 5, 13] (fun v st i wr => ∃ (k t g cap n : Nat) (L : List UInt8), v = .slice (some ⟨g, 0, none⟩) n cap ∧ st = .int .i64 t ∧ i = .int .i64 k ∧ Rel w (some g0) l s wr k t g cap n L) (fun _ _ i _ => s.size - (intOf i).toNat)
  case atStart => exact ⟨0, 0, _, _, _, _, rfl, rfl, rfl, hR1⟩
  case round =>
    obtain ⟨k, t, g, cap, n, L, rfl, rfl, rfl, hR⟩ := hrel
    obtain ⟨hst, hks, hnl⟩ := rel_len hR
    by_cases hlt : k < s.size
    · have hcb := u8_lt s[k]
      have hxs := ext_size s t k
      by_cases h32 : (s[k].toNat : Int) < 32
      · have HE := hid (Pl.encB_ctl (c := s[k]) (by omega))
        have hand : bits .and .u8 (s[k].toNat : Int) 15 = (s[k].toNat : Int) % 16 := by rw [and15 _ (by omega)]; omega
        have q1 : 0 ≤ (s[k].toNat : Int) / 16 := by omega
        have q2 : (s[k].toNat : Int) / 16 < 16 := by omega
        have q3 : 0 ≤ (s[k].toNat : Int) % 16 := by omega
        have q4 : (s[k].toNat : Int) % 16 < 16 := by omega
        go_wp2_with (at_builtin; refine wl_append_s rfl (.tmp 29) (.tmp 33) 25 9 rfl 5 i0 Try.underlying25 Try.underlying9 hi hz0 hz1 hz2 g cap n L rfl hR.n hR.b (s.extract t k) rfl (by omega) ?_)
        intro g1 cap1 w1 n1 M hc1 hn1 hb1 hgr1 hg1
        have hM := mid_of hR hc1 hn1 hb1 hgr1 hg1
        have hml := mid_len hM
        clear hc1 hn1 hb1 hgr1 hg1 hR
        go_wp2
        go_region_law ((refine step_append rfl (.tmp 37) (.tmp 44) 25 rfl 5 i0 Try.underlying25 hi hz0 hz1 hz2 g1 cap1 n1 M rfl hM.n (hM.b.drew.alloc _) _ 6 6 [92, 117, 48, 48, Pl.hxd (s[k].toNat / 16), Pl.hxd (s[k].toNat % 16)] rfl rfl (six_new _ _ _ _ _ _ (hex_int _ _ (by omega) (by omega) _) (hex_int _ _ (by omega) (by omega) _)) (by omega) ?_; intro g2 cap2 w2 n2 M2 hc2 hn2 hb2 hgr2 hg2))
        all_goals
          have hR2 := rel_esc' hM hlt HE.out.symm (grownBy_trans (grownBy_drew w1 none) (World.grownBy_alloc _ _ none) (fun i e => by cases e)) hc2 hn2 hb2 hgr2 hg2
          clear hc2 hn2 hb2 hgr2 hg2 hM
          go_wp2
          go_roundw
          case rel => exact ⟨k + 1, k + 1, g2, cap2, n2, _, rfl, by go_num, by go_num, hR2⟩
          case measure => simp [intOf]; omega
      · cases h34 : ((s[k].toNat : Int) != 34)
        · have HE := hid (Pl.encB_esc (c := s[k]) (by omega) (Or.inl (by simp only [bne_eq_false_iff_eq] at h34; exact UInt8.toNat_inj.1 (Int.ofNat_inj.1 h34))))
          go_wp2_with (at_builtin; refine wl_append_s rfl (.tmp 29) (.tmp 33) 25 9 rfl 5 i0 Try.underlying25 Try.underlying9 hi hz0 hz1 hz2 g cap n L rfl hR.n hR.b (s.extract t k) rfl (by omega) ?_)
          intro g1 cap1 w1 n1 M hc1 hn1 hb1 hgr1 hg1
          have hM := mid_of hR hc1 hn1 hb1 hgr1 hg1
          have hml := mid_len hM
          clear hc1 hn1 hb1 hgr1 hg1 hR
          go_wp2_with (at_builtin; refine wl_append rfl (.tmp 46) (.tmp 48) 25 rfl 5 i0 Try.underlying25 hi hz0 hz1 hz2 g1 cap1 n1 M rfl hM.n (hM.b.alloc _) _ 2 2 [92, s[k]] rfl rfl (two_new _ _ 92 _ _ _ rfl rfl) (by omega) ?_)
          intro g2 cap2 w2 n2 M2 hc2 hn2 hb2 hgr2 hg2
          have hR2 := rel_esc hM hlt HE.out.symm hc2 hn2 hb2 hgr2 hg2
          clear hc2 hn2 hb2 hgr2 hg2 hM
          go_wp2
          go_roundw
          case rel => exact ⟨k + 1, k + 1, g2, cap2, n2, _, rfl, by go_num, by go_num, hR2⟩
          case measure => simp [intOf]; omega
        · cases h92 : ((s[k].toNat : Int) != 92)
          · have HE := hid (Pl.encB_esc (c := s[k]) (by omega) (Or.inr (by simp only [bne_eq_false_iff_eq] at h92; exact UInt8.toNat_inj.1 (Int.ofNat_inj.1 h92))))
            go_wp2_with (at_builtin; refine wl_append_s rfl (.tmp 29) (.tmp 33) 25 9 rfl 5 i0 Try.underlying25 Try.underlying9 hi hz0 hz1 hz2 g cap n L rfl hR.n hR.b (s.extract t k) rfl (by omega) ?_)
            intro g1 cap1 w1 n1 M hc1 hn1 hb1 hgr1 hg1
            have hM := mid_of hR hc1 hn1 hb1 hgr1 hg1
            have hml := mid_len hM
            clear hc1 hn1 hb1 hgr1 hg1 hR
            go_wp2_with (at_builtin; refine wl_append rfl (.tmp 46) (.tmp 48) 25 rfl 5 i0 Try.underlying25 hi hz0 hz1 hz2 g1 cap1 n1 M rfl hM.n (hM.b.alloc _) _ 2 2 [92, s[k]] rfl rfl (two_new _ _ 92 _ _ _ rfl rfl) (by omega) ?_)
            intro g2 cap2 w2 n2 M2 hc2 hn2 hb2 hgr2 hg2
            have hR2 := rel_esc hM hlt HE.out.symm hc2 hn2 hb2 hgr2 hg2
            clear hc2 hn2 hb2 hgr2 hg2 hM
            go_wp2
            go_roundw
            case rel => exact ⟨k + 1, k + 1, g2, cap2, n2, _, rfl, by go_num, by go_num, hR2⟩
            case measure => simp [intOf]; omega
          · have hR1 := rel_plain hR hlt h32 h34 h92
            clear hR
            go_wp2
            go_roundw
            case rel => exact ⟨k + 1, t, g, cap, n, L, rfl, rfl, by go_num, hR1⟩
            case measure => simp [intOf]; omega
    · have hke : k = s.size := by omega
      have hxs := ext_size s t k
      subst hke
      go_wp2_with (at_builtin; refine wl_append_s rfl (.tmp 53) (.tmp 56) 25 9 rfl 5 i0 Try.underlying25 Try.underlying9 hi hz0 hz1 hz2 g cap n L rfl hR.n hR.b (s.extract t s.size) rfl (by omega) ?_)
      intro g1 cap1 w1 n1 M hc1 hn1 hb1 hgr1 hg1
      have hM := mid_of hR hc1 hn1 hb1 hgr1 hg1
      have hml := mid_len hM
      clear hc1 hn1 hb1 hgr1 hg1 hR
      go_wp2_with (at_builtin; refine wl_append rfl (.tmp 58) (.tmp 59) 25 rfl 5 i0 Try.underlying25 hi hz0 hz1 hz2 g1 cap1 n1 M rfl hM.n (hM.b.alloc _) _ 1 1 [34] rfl rfl (one_new _ _ 34 _ rfl) (by omega) ?_)
      intro g2 cap2 w2 n2 M2 hc2 hn2 hb2 hgr2 hg2
      have hO := hid (out_of hM hlt hc2 hn2 hb2 hgr2 hg2)
      clear hc2 hn2 hb2 hgr2 hg2 hM
      go_wp2
      go_ret
      exact hO.out

set_option maxRecDepth 100000 in
set_option maxHeartbeats 1000000 in
theorem app_nil (s : ByteArray) (w : World) (hs : s.size ≤ 1048576) :
    Calls Try.prog 24 #[.slice none 0 0, .string s] w fun e w' => Out w none [] s e w' := by
  have hl : ([] : List UInt8).length ≤ 1048576 := by simp
  obtain ⟨i0, hi, hz0, hz1, hz2⟩ := info_parts info5
  go_enter Try.func24, Try.ntmps24
  go_wp2_with (at_builtin; refine wl_append_nil rfl (.tmp 8) (.tmp 9) 25 rfl 5 i0 Try.underlying25 hi hz0 hz1 hz2 rfl _ 1 1 [34] rfl rfl (by decide) (one_new _ _ 34 _ rfl) (by omega) ?_)
  intro g1 cap1 w1 n1 L1 hc1 hn1 hb1 hgr1 hg1
  have hR1 : Rel w none [] s w1 0 0 g1 cap1 n1 L1 := ⟨hn1, hb1, by unfold Cat at hc1; rw [hc1]; exact Pl.St.start [] _, ⟨grownBy_trans (World.grownBy_alloc w _ none) hgr1 (fun i e => by cases e), Or.inr (by unfold Near at hg1; simp at hg1; omega)⟩⟩
  clear hc1 hn1 hb1 hgr1 hg1
  go_wp2
  go_loopw [0, 5, 13] (fun v st i wr => ∃ (k t g cap n : Nat) (L : List UInt8), v = .slice (some ⟨g, 0, none⟩) n cap ∧ st = .int .i64 t ∧ i = .int .i64 k ∧ Rel w none [] s wr k t g cap n L) (fun _ _ i _ => s.size - (intOf i).toNat)
  case atStart => exact ⟨0, 0, _, _, _, _, rfl, rfl, rfl, hR1⟩
  case round =>
    obtain ⟨k, t, g, cap, n, L, rfl, rfl, rfl, hR⟩ := hrel
    obtain ⟨hst, hks, hnl⟩ := rel_len hR
    by_cases hlt : k < s.size
    · have hcb := u8_lt s[k]
      have hxs := ext_size s t k
      by_cases h32 : (s[k].toNat : Int) < 32
      · have HE := hid (Pl.encB_ctl (c := s[k]) (by omega))
        have hand : bits .and .u8 (s[k].toNat : Int) 15 = (s[k].toNat : Int) % 16 := by rw [and15 _ (by omega)]; omega
        have q1 : 0 ≤ (s[k].toNat : Int) / 16 := by omega
        have q2 : (s[k].toNat : Int) / 16 < 16 := by omega
        have q3 : 0 ≤ (s[k].toNat : Int) % 16 := by omega
        have q4 : (s[k].toNat : Int) % 16 < 16 := by omega
        go_wp2_with (at_builtin; refine wl_append_s rfl (.tmp 29) (.tmp 33) 25 9 rfl 5 i0 Try.underlying25 Try.underlying9 hi hz0 hz1 hz2 g cap n L rfl hR.n hR.b (s.extract t k) rfl (by omega) ?_)
        intro g1 cap1 w1 n1 M hc1 hn1 hb1 hgr1 hg1
        have hM := mid_of hR hc1 hn1 hb1 hgr1 hg1
        have hml := mid_len hM
        clear hc1 hn1 hb1 hgr1 hg1 hR
        go_wp2
        go_region_law ((refine step_append rfl (.tmp 37) (.tmp 44) 25 rfl 5 i0 Try.underlying25 hi hz0 hz1 hz2 g1 cap1 n1 M rfl hM.n (hM.b.drew.alloc _) _ 6 6 [92, 117, 48, 48, Pl.hxd (s[k].toNat / 16), Pl.hxd (s[k].toNat % 16)] rfl rfl (six_new _ _ _ _ _ _ (hex_int _ _ (by omega) (by omega) _) (hex_int _ _ (by omega) (by omega) _)) (by omega) ?_; intro g2 cap2 w2 n2 M2 hc2 hn2 hb2 hgr2 hg2))
        all_goals
          have hR2 := rel_esc' hM hlt HE.out.symm (grownBy_trans (grownBy_drew w1 none) (World.grownBy_alloc _ _ none) (fun i e => by cases e)) hc2 hn2 hb2 hgr2 hg2
          clear hc2 hn2 hb2 hgr2 hg2 hM
          go_wp2
          go_roundw
          case rel => exact ⟨k + 1, k + 1, g2, cap2, n2, _, rfl, by go_num, by go_num, hR2⟩
          case measure => simp [intOf]; omega
      · cases h34 : ((s[k].toNat : Int) != 34)
        · have HE := hid (Pl.encB_esc (c := s[k]) (by omega) (Or.inl (by simp only [bne_eq_false_iff_eq] at h34; exact UInt8.toNat_inj.1 (Int.ofNat_inj.1 h34))))
          go_wp2_with (at_builtin; refine wl_append_s rfl (.tmp 29) (.tmp 33) 25 9 rfl 5 i0 Try.underlying25 Try.underlying9 hi hz0 hz1 hz2 g cap n L rfl hR.n hR.b (s.extract t k) rfl (by omega) ?_)
          intro g1 cap1 w1 n1 M hc1 hn1 hb1 hgr1 hg1
          have hM := mid_of hR hc1 hn1 hb1 hgr1 hg1
          have hml := mid_len hM
          clear hc1 hn1 hb1 hgr1 hg1 hR
          go_wp2_with (at_builtin; refine wl_append rfl (.tmp 46) (.tmp 48) 25 rfl 5 i0 Try.underlying25 hi hz0 hz1 hz2 g1 cap1 n1 M rfl hM.n (hM.b.alloc _) _ 2 2 [92, s[k]] rfl rfl (two_new _ _ 92 _ _ _ rfl rfl) (by omega) ?_)
          intro g2 cap2 w2 n2 M2 hc2 hn2 hb2 hgr2 hg2
          have hR2 := rel_esc hM hlt HE.out.symm hc2 hn2 hb2 hgr2 hg2
          clear hc2 hn2 hb2 hgr2 hg2 hM
          go_wp2
          go_roundw
          case rel => exact ⟨k + 1, k + 1, g2, cap2, n2, _, rfl, by go_num, by go_num, hR2⟩
          case measure => simp [intOf]; omega
        · cases h92 : ((s[k].toNat : Int) != 92)
          · have HE := hid (Pl.encB_esc (c := s[k]) (by omega) (Or.inr (by simp only [bne_eq_false_iff_eq] at h92; exact UInt8.toNat_inj.1 (Int.ofNat_inj.1 h92))))
            go_wp2_with (at_builtin; refine wl_append_s rfl (.tmp 29) (.tmp 33) 25 9 rfl 5 i0 Try.underlying25 Try.underlying9 hi hz0 hz1 hz2 g cap n L rfl hR.n hR.b (s.extract t k) rfl (by omega) ?_)
            intro g1 cap1 w1 n1 M hc1 hn1 hb1 hgr1 hg1
            have hM := mid_of hR hc1 hn1 hb1 hgr1 hg1
            have hml := mid_len hM
            clear hc1 hn1 hb1 hgr1 hg1 hR
            go_wp2_with (at_builtin; refine wl_append rfl (.tmp 46) (.tmp 48) 25 rfl 5 i0 Try.underlying25 hi hz0 hz1 hz2 g1 cap1 n1 M rfl hM.n (hM.b.alloc _) _ 2 2 [92, s[k]] rfl rfl (two_new _ _ 92 _ _ _ rfl rfl) (by omega) ?_)
            intro g2 cap2 w2 n2 M2 hc2 hn2 hb2 hgr2 hg2
            have hR2 := rel_esc hM hlt HE.out.symm hc2 hn2 hb2 hgr2 hg2
            clear hc2 hn2 hb2 hgr2 hg2 hM
            go_wp2
            go_roundw
            case rel => exact ⟨k + 1, k + 1, g2, cap2, n2, _, rfl, by go_num, by go_num, hR2⟩
            case measure => simp [intOf]; omega
          · have hR1 := rel_plain hR hlt h32 h34 h92
            clear hR
            go_wp2
            go_roundw
            case rel => exact ⟨k + 1, t, g, cap, n, L, rfl, rfl, by go_num, hR1⟩
            case measure => simp [intOf]; omega
    · have hke : k = s.size := by omega
      have hxs := ext_size s t k
      subst hke
      go_wp2_with (at_builtin; refine wl_append_s rfl (.tmp 53) (.tmp 56) 25 9 rfl 5 i0 Try.underlying25 Try.underlying9 hi hz0 hz1 hz2 g cap n L rfl hR.n hR.b (s.extract t s.size) rfl (by omega) ?_)
      intro g1 cap1 w1 n1 M hc1 hn1 hb1 hgr1 hg1
      have hM := mid_of hR hc1 hn1 hb1 hgr1 hg1
      have hml := mid_len hM
      clear hc1 hn1 hb1 hgr1 hg1 hR
      go_wp2_with (at_builtin; refine wl_append rfl (.tmp 58) (.tmp 59) 25 rfl 5 i0 Try.underlying25 hi hz0 hz1 hz2 g1 cap1 n1 M rfl hM.n (hM.b.alloc _) _ 1 1 [34] rfl rfl (one_new _ _ 34 _ rfl) (by omega) ?_)
      intro g2 cap2 w2 n2 M2 hc2 hn2 hb2 hgr2 hg2
      have hO := hid (out_of hM hlt hc2 hn2 hb2 hgr2 hg2)
      clear hc2 hn2 hb2 hgr2 hg2 hM
      go_wp2
      go_ret
      exact hO.out

set_option maxHeartbeats 400000 in
/-- ZZappendString hands it on. -/
theorem zz_app {v : Value} {s : ByteArray} {w : World} {row : Option Nat} {l : List UInt8} (h : Calls Try.prog 24 #[v, .string s] w fun e w' => Out w row l s e w') :
    Calls Try.prog 18 #[v, .string s] w fun e w' => Out w row l s e w' := by
  have H := hid h
  clear h
  go_enter Try.func18, Try.ntmps18
  go_wp2_with (go_at_call 24; refine (H.out).mono ?_; rintro e w1 ⟨g, cap, n, rfl, h1, h2, h3⟩)
  go_ret
  exact ⟨g, cap, n, rfl, h1, h2, h3⟩
end App
end Go.Proofs.Qxb6619578a
