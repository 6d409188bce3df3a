/-
  THE WALK of parseCSVInt64: it answers as strconv.ParseInt does.
-/
import Derived.Test.Qxb6619417aDoorRows
import Derived.Test.Qxb6619417aDoorPlain
import Derived.Test.Qxb6619417aDoorBytes
import Derived.Test.Qxb6619417aDoorShelf
import Derived.WalkKit
import Derived.WalkSmall
import Derived.Deep.QuietTactic
import Derived.BigQuiet
namespace Go.Proofs.Qxb6619417aDoor
open Go.RowKit
set_option linter.unusedVariables false
set_option linter.unusedSimpArgs false
namespace Csv
theorem hid {p : Prop} (h : p) : Hid p := h

/-- The two sentinels of package strconv lie in their variables. -/
def Errs (w : World) : Prop := (∃ tp p, w.var? Tryd.prog "strconv.ErrSyntax" = some #[.iface tp p]) ∧ (∃ tp p, w.var? Tryd.prog "strconv.ErrRange" = some #[.iface tp p])

/-- strconv.ParseInt(s, 10, 64), its three ends in one: the number, and an error that is nil just where there is none. -/
theorem parse_int (s : ByteArray) (hs : s.size ≤ 4194304) (w : World) (he : Errs w) (V : Int) :
    (Pl.ans s.data.toList = (V, true) → Calls Tryd.prog 21 #[.string s, .int .i64 10, .int .i64 64] w fun e w' => e = .returned (.tuple #[.int .i64 V, .nilIface]) ∧ Below w.heap.size w w') ∧
    (Pl.ans s.data.toList = (V, false) → Calls Tryd.prog 21 #[.string s, .int .i64 10, .int .i64 64] w fun e w' => ∃ N, e = .returned (.tuple #[.int .i64 V, .iface 63 (.pointer (some ⟨N, 0, none⟩))]) ∧ Below w.heap.size w w') := by
  obtain ⟨⟨t1, p1, h1⟩, ⟨t2, p2, h2⟩⟩ := he
  cases hE : Lib.parseIntB 64 s.data.toList
  · rename_i v
    refine ⟨fun h => ?_, fun h => ?_⟩
    · have hv : v = V := by simp [Pl.ans, hE] at h; exact h
      subst hv
      refine (Tryd.parseInt_ok s (by omega) v hE w).mono fun e w' ⟨a, b⟩ => ⟨a, ?_⟩
      rcases b with rfl | ⟨t, rfl⟩
      · exact Below.refl _ _
      · exact Lib.bytesWorld_below _ _ _
    · simp [Pl.ans, hE] at h
  · refine ⟨fun h => ?_, fun h => ?_⟩
    · simp [Pl.ans, hE] at h
    · have hv : V = 0 := by simp [Pl.ans, hE] at h; exact h.symm
      subst hv
      exact (Tryd.parseInt_syn s (by omega) hE t1 p1 w h1).mono fun e w' ⟨N, a, _, _, b⟩ => ⟨N, a, b⟩
  · refine ⟨fun h => ?_, fun h => ?_⟩
    · simp [Pl.ans, hE] at h
    · have hv : Lib.intSat 64 s.data.toList = V := by simp [Pl.ans, hE] at h; exact h
      rw [← hv]
      exact (Tryd.parseInt_range s (by omega) hE t2 p2 w h2).mono fun e w' ⟨N, a, _, _, b⟩ => ⟨N, a, b⟩

theorem g_syn : Tryd.prog.globalNamed "strconv.ErrSyntax" = some 2 := by kernel_rfl
theorem g_rng : Tryd.prog.globalNamed "strconv.ErrRange" = some 3 := by kernel_rfl
theorem lt_of_var {w : World} {n : String} {g : Nat} {cs : Array Value} (hg : Tryd.prog.globalNamed n = some g) (h : w.var? Tryd.prog n = some cs) : g < w.heap.size := by
  unfold World.var? at h
  simp only [hg, Option.bind_some] at h
  by_cases hlt : g < w.heap.size
  · exact hlt
  · rw [Array.getElem?_eq_none (by omega)] at h; simp at h
theorem errs_below {w w' : World} (h : Errs w) (hb : Below w.heap.size w w') : Errs w' := by
  obtain ⟨⟨t1, p1, h1⟩, ⟨t2, p2, h2⟩⟩ := h
  exact ⟨⟨t1, p1, var?_below hb g_syn (lt_of_var g_syn h1) h1⟩, ⟨t2, p2, var?_below hb g_rng (lt_of_var g_rng h2) h2⟩⟩

/-- The row as a string. -/
theorem run_str {w : World} {g cap n : Nat} {l : List UInt8} (hb : Byt w 5 g cap l) (hn : n = l.length) :
    (convert 22 9 (.slice (some ⟨g, 0, none⟩) n cap)).run Tryd.prog w = .ok (.string ⟨l.toArray⟩) w := by
  subst hn
  have := run_string_byt (P := Tryd.prog) w 22 9 5 Tryd.underlying22 Tryd.underlying5 Tryd.underlying9 g cap l hb l.length cap (Nat.le_refl _)
  rw [List.take_of_length_le (Nat.le_refl _)] at this
  exact this

/-- ParseInt at the row's string, both ends. -/
structure PI (S : ByteArray) (V : Int) (ok : Bool) : Prop where
  yes : ok = true → ∀ w, Errs w → Calls Tryd.prog 21 #[.string S, .int .i64 10, .int .i64 64] w fun e w' => e = .returned (.tuple #[.int .i64 V, .nilIface]) ∧ Below w.heap.size w w'
  no : ok = false → ∀ w, Errs w → Calls Tryd.prog 21 #[.string S, .int .i64 10, .int .i64 64] w fun e w' => ∃ N, e = .returned (.tuple #[.int .i64 V, .iface 63 (.pointer (some ⟨N, 0, none⟩))]) ∧ Below w.heap.size w w'
theorem pi_of (l : List UInt8) (hl : l.length ≤ 4194304) (V : Int) (ok : Bool) (h : Pl.ans l = (V, ok)) : PI ⟨l.toArray⟩ V ok := by
  have hs : (⟨l.toArray⟩ : ByteArray).size ≤ 4194304 := by simpa [ByteArray.size] using hl
  refine ⟨fun e w he => (parse_int _ hs w he V).1 ?_, fun e w he => (parse_int _ hs w he V).2 ?_⟩
  · subst e; exact h
  · subst e; exact h

set_option maxRecDepth 100000 in
set_option maxHeartbeats 1000000 in
/-- The empty row. -/
theorem slow0 (g cap : Nat) (S : ByteArray) (V : Int) (ok : Bool) (w : World) (he : Errs w) (hp : PI S V ok)
    (hcv : (convert 22 9 (.slice (some ⟨g, 0, none⟩) 0 cap)).run Tryd.prog w = .ok (.string S) w) :
    Calls Tryd.prog 17 #[.slice (some ⟨g, 0, none⟩) 0 cap] w fun e w' => e = .returned (.tuple #[.int .i64 V, .bool ok]) ∧ Below w.heap.size w w' := by
  cases ok
  · go_enter Tryd.func17, Tryd.ntmps17
    go_wp2_with (go_at_call 21; refine (hp.no rfl _ he).mono ?_)
    rintro e w1 ⟨N, rfl, hb⟩
    go_wp2
    go_region
    go_wp2
    go_ret2
    exact ⟨rfl, hb.drew⟩
  · go_enter Tryd.func17, Tryd.ntmps17
    go_wp2_with (go_at_call 21; refine (hp.yes rfl _ he).mono ?_)
    rintro e w1 ⟨rfl, hb⟩
    go_wp2
    go_region
    go_wp2
    go_ret2
    exact ⟨rfl, hb.drew⟩

set_option maxRecDepth 100000 in
set_option maxHeartbeats 1000000 in
/-- nil. -/
theorem slow_nil (S : ByteArray) (V : Int) (ok : Bool) (w : World) (he : Errs w) (hp : PI S V ok)
    (hcv : (convert 22 9 (.slice none 0 0)).run Tryd.prog w = .ok (.string S) w) :
    Calls Tryd.prog 17 #[.slice none 0 0] w fun e w' => e = .returned (.tuple #[.int .i64 V, .bool ok]) ∧ Below w.heap.size w w' := by
  cases ok
  · go_enter Tryd.func17, Tryd.ntmps17
    go_wp2_with (go_at_call 21; refine (hp.no rfl _ he).mono ?_)
    rintro e w1 ⟨N, rfl, hb⟩
    go_wp2
    go_region
    go_wp2
    go_ret2
    exact ⟨rfl, hb.drew⟩
  · go_enter Tryd.func17, Tryd.ntmps17
    go_wp2_with (go_at_call 21; refine (hp.yes rfl _ he).mono ?_)
    rintro e w1 ⟨rfl, hb⟩
    go_wp2
    go_region
    go_wp2
    go_ret2
    exact ⟨rfl, hb.drew⟩

set_option maxRecDepth 100000 in
set_option maxHeartbeats 1000000 in
/-- No sign, more than 18 bytes. -/
theorem slow_plain (g cap n : Nat) (c : UInt8) (S : ByteArray) (V : Int) (ok : Bool) (w : World) (he : Errs w) (hp : PI S V ok) (hn : 19 ≤ n) (hn2 : n ≤ 4194304) (hcap : n ≤ cap)
    (hc : w.cell? ⟨g, 0, none⟩ = some (.int .u8 (c.toNat : Int))) (h1 : ((c.toNat : Int) == 45) = false) (h2 : ((c.toNat : Int) == 43) = false)
    (hcv : (convert 22 9 (.slice (some ⟨g, 0, none⟩) n cap)).run Tryd.prog w = .ok (.string S) w) :
    Calls Tryd.prog 17 #[.slice (some ⟨g, 0, none⟩) n cap] w fun e w' => e = .returned (.tuple #[.int .i64 V, .bool ok]) ∧ Below w.heap.size w w' := by
  cases ok
  · go_enter Tryd.func17, Tryd.ntmps17
    go_wp2_with (go_at_call 21; refine (hp.no rfl _ he).mono ?_)
    rintro e w1 ⟨N, rfl, hb⟩
    go_wp2
    go_region
    go_wp2
    go_ret2
    exact ⟨rfl, hb.drew⟩
  · go_enter Tryd.func17, Tryd.ntmps17
    go_wp2_with (go_at_call 21; refine (hp.yes rfl _ he).mono ?_)
    rintro e w1 ⟨rfl, hb⟩
    go_wp2
    go_region
    go_wp2
    go_ret2
    exact ⟨rfl, hb.drew⟩

set_option maxRecDepth 100000 in
set_option maxHeartbeats 1000000 in
/-- A sign, and behind it none or more than 18 bytes. -/
theorem slow_signed (g cap n : Nat) (c : UInt8) (S : ByteArray) (V : Int) (ok : Bool) (w : World) (he : Errs w) (hp : PI S V ok) (hn : n = 1 ∨ 20 ≤ n) (hn2 : n ≤ 4194304) (hcap : n ≤ cap)
    (hc : w.cell? ⟨g, 0, none⟩ = some (.int .u8 (c.toNat : Int))) (h1 : ((c.toNat : Int) == 45) = true ∨ (((c.toNat : Int) == 45) = false ∧ ((c.toNat : Int) == 43) = true))
    (hcv : (convert 22 9 (.slice (some ⟨g, 0, none⟩) n cap)).run Tryd.prog w = .ok (.string S) w) :
    Calls Tryd.prog 17 #[.slice (some ⟨g, 0, none⟩) n cap] w fun e w' => e = .returned (.tuple #[.int .i64 V, .bool ok]) ∧ Below w.heap.size w w' := by
  rcases hn with rfl | hn
  · rcases h1 with h1 | ⟨h1, h2⟩
    · cases ok
      · go_enter Tryd.func17, Tryd.ntmps17
        go_wp2_with (go_at_call 21; refine (hp.no rfl _ he).mono ?_; rintro e w1 ⟨N, rfl, hb⟩)
        all_goals
          go_region
          go_wp2
          go_ret2
          exact ⟨rfl, hb.drew⟩
      · go_enter Tryd.func17, Tryd.ntmps17
        go_wp2_with (go_at_call 21; refine (hp.yes rfl _ he).mono ?_; rintro e w1 ⟨rfl, hb⟩)
        all_goals
          go_region
          go_wp2
          go_ret2
          exact ⟨rfl, hb.drew⟩
    · cases ok
      · go_enter Tryd.func17, Tryd.ntmps17
        go_wp2_with (go_at_call 21; refine (hp.no rfl _ he).mono ?_; rintro e w1 ⟨N, rfl, hb⟩)
        all_goals
          go_region
          go_wp2
          go_ret2
          exact ⟨rfl, hb.drew⟩
      · go_enter Tryd.func17, Tryd.ntmps17
        go_wp2_with (go_at_call 21; refine (hp.yes rfl _ he).mono ?_; rintro e w1 ⟨rfl, hb⟩)
        all_goals
          go_region
          go_wp2
          go_ret2
          exact ⟨rfl, hb.drew⟩
  · rcases h1 with h1 | ⟨h1, h2⟩
    · cases ok
      · go_enter Tryd.func17, Tryd.ntmps17
        go_wp2_with (go_at_call 21; refine (hp.no rfl _ he).mono ?_; rintro e w1 ⟨N, rfl, hb⟩)
        all_goals
          go_region
          go_wp2
          go_ret2
          exact ⟨rfl, hb.drew⟩
      · go_enter Tryd.func17, Tryd.ntmps17
        go_wp2_with (go_at_call 21; refine (hp.yes rfl _ he).mono ?_; rintro e w1 ⟨rfl, hb⟩)
        all_goals
          go_region
          go_wp2
          go_ret2
          exact ⟨rfl, hb.drew⟩
    · cases ok
      · go_enter Tryd.func17, Tryd.ntmps17
        go_wp2_with (go_at_call 21; refine (hp.no rfl _ he).mono ?_; rintro e w1 ⟨N, rfl, hb⟩)
        all_goals
          go_region
          go_wp2
          go_ret2
          exact ⟨rfl, hb.drew⟩
      · go_enter Tryd.func17, Tryd.ntmps17
        go_wp2_with (go_at_call 21; refine (hp.yes rfl _ he).mono ?_; rintro e w1 ⟨rfl, hb⟩)
        all_goals
          go_region
          go_wp2
          go_ret2
          exact ⟨rfl, hb.drew⟩
end Csv
end Go.Proofs.Qxb6619417aDoor
