/-
  THE WALK of FnAppendStringCutAndPrefix.
-/
import Derived.Test.Qxb6619578aClone
import Derived.Deep.QuietTactic
import Derived.BigQuiet
namespace Go.Proofs.Qxb6619578a
open Go.RowKit
set_option linter.unusedVariables false
set_option linter.unusedSimpArgs false
namespace Cut
open App Clone

set_option maxHeartbeats 400000 in
theorem zz20_yes (a : Option Addr) (n cap : Nat) (s1 s2 : ByteArray) (w : World) (h : n + s1.size + s2.size ≤ 1048576) :
    Calls Try.prog 20 #[.slice a n cap, .string s1, .string s2] w fun e w' => e = .returned (.bool true) ∧ w = w' := by
  go_enter Try.func20, Try.ntmps20
  go_wp2
  go_ret
  exact ⟨rfl, rfl⟩
set_option maxRecDepth 100000 in
set_option maxHeartbeats 400000 in
theorem zz20_no (a : Option Addr) (n cap : Nat) (s1 s2 : ByteArray) (w : World) (h0 : n ≤ 9223372036854775807) (h1 : s1.size ≤ 9223372036854775807) (h2 : s2.size ≤ 9223372036854775807) (h : ¬ n + s1.size + s2.size ≤ 1048576) :
    Calls Try.prog 20 #[.slice a n cap, .string s1, .string s2] w fun e w' => e = .returned (.bool false) ∧ w = w' := by
  go_enter Try.func20, Try.ntmps20
  go_wp2
  all_goals
    go_ret
    exact ⟨rfl, rfl⟩

/-- The four rows, as they are read. -/
structure S4 (w : World) (l x y : List UInt8) (gF cF gW cW gX cX gY cY : Nat) (wr : World) : Prop where
  bel : Below w.heap.size w wr
  F : l = [] ∨ Byt wr 5 gF cF l
  W : Byt wr 5 gW cW (l ++ Pl.quo (x ++ y))
  X : Byt wr 5 gX cX (Pl.quo x)
  Y : Byt wr 5 gY cY (Pl.quo y)
theorem S4.drew {w : World} {l x y : List UInt8} {gF cF gW cW gX cX gY cY : Nat} {wr : World} (h : S4 w l x y gF cF gW cW gX cX gY cY wr) : S4 w l x y gF cF gW cW gX cX gY cY wr.drew := ⟨h.bel.drew, h.F, h.W, h.X, h.Y⟩

theorem whole_eq (l x y : List UInt8) : l ++ Pl.quo (x ++ y) = l ++ ((34 :: Pl.enc x) ++ (Pl.enc y ++ [34])) := by simp [Pl.quo, Pl.enc_append]
theorem quo_len (x : List UInt8) : (Pl.quo x).length = (Pl.enc x).length + 2 := by simp [Pl.quo]
theorem quo_app (x : List UInt8) : Pl.quo x = (34 :: Pl.enc x) ++ [34] := by simp [Pl.quo]
theorem at1 (l x y : List UInt8) (k : Nat) (h : k < l.length) : (l ++ Pl.quo (x ++ y))[k]? = l[k]? := by
  rw [List.getElem?_append_left h]
theorem at2 (l x y : List UInt8) (k : Nat) (h : k + 1 < (Pl.quo x).length) : (l ++ Pl.quo (x ++ y))[l.length + k]? = (Pl.quo x)[k]? := by
  have hl := quo_len x
  have hk : k < (34 :: Pl.enc x).length := by simp; omega
  rw [whole_eq, quo_app, List.getElem?_append_right (by omega), Nat.add_sub_cancel_left, List.getElem?_append_left hk, List.getElem?_append_left hk]
theorem at3 (l x y : List UInt8) (k p : Nat) (hk : 1 ≤ k) (hp : p + 1 = l.length + ((Pl.quo x).length - 1) + k) : (l ++ Pl.quo (x ++ y))[p]? = (Pl.quo y)[k]? := by
  have hl := quo_len x
  obtain ⟨j, rfl⟩ : ∃ j, k = j + 1 := ⟨k - 1, by omega⟩
  have e2 : (34 :: Pl.enc x).length = (Pl.enc x).length + 1 := by simp
  rw [whole_eq, List.getElem?_append_right (by omega), List.getElem?_append_right (by omega), Pl.quo, List.getElem?_cons_succ]
  congr 1
  omega
theorem cell_of {w : World} {g c p : Nat} {M : List UInt8} {b : UInt8} (h : Byt w 5 g c M) (hp : M[p]? = some b) : w.cell? ⟨g, p, none⟩ = some (.int .u8 (b.toNat : Int)) := by
  obtain ⟨hlt, e⟩ := List.getElem?_eq_some_iff.1 hp
  rw [h.cell p hlt, e]

section
variable {w : World} {l x y : List UInt8} {gF cF gW cW gX cX gY cY : Nat} {wr : World}
theorem same1 (h : S4 w l x y gF cF gW cW gX cX gY cY wr) (k : Nat) (hk : k < l.length) : ∃ v : Int, wr.cell? ⟨gW, k, none⟩ = some (.int .u8 v) ∧ wr.cell? ⟨gF, k, none⟩ = some (.int .u8 v) := by
  rcases h.F with e | hF
  · subst e; simp at hk
  · have e := List.getElem?_eq_getElem hk
    exact ⟨_, cell_of h.W ((at1 l x y k hk).trans e), cell_of hF e⟩
theorem same2 (h : S4 w l x y gF cF gW cW gX cX gY cY wr) (k p : Nat) (hk : k + 1 < (Pl.quo x).length) (hp : p = l.length + k) : ∃ v : Int, wr.cell? ⟨gW, p, none⟩ = some (.int .u8 v) ∧ wr.cell? ⟨gX, k, none⟩ = some (.int .u8 v) := by
  subst hp
  have e := List.getElem?_eq_getElem (l := Pl.quo x) (i := k) (by omega)
  exact ⟨_, cell_of h.W ((at2 l x y k hk).trans e), cell_of h.X e⟩
theorem same3 (h : S4 w l x y gF cF gW cW gX cX gY cY wr) (k p : Nat) (hk : 1 ≤ k) (hk2 : k < (Pl.quo y).length) (hp : p + 1 = l.length + ((Pl.quo x).length - 1) + k) : ∃ v : Int, wr.cell? ⟨gW, p, none⟩ = some (.int .u8 v) ∧ wr.cell? ⟨gY, k, none⟩ = some (.int .u8 v) := by
  have e := List.getElem?_eq_getElem hk2
  exact ⟨_, cell_of h.W ((at3 l x y k p hk hp).trans e), cell_of h.Y e⟩
end
theorem quo_first {w : World} {g c : Nat} {x : List UInt8} (h : Byt w 5 g c (Pl.quo x)) : w.cell? ⟨g, 0, none⟩ = some (.int .u8 34) := cell_of (b := 34) h rfl
theorem quo_last {w : World} {g c : Nat} {x : List UInt8} (h : Byt w 5 g c (Pl.quo x)) (n : Nat) (hn : n + 1 = (Pl.quo x).length) : w.cell? ⟨g, n, none⟩ = some (.int .u8 34) := by
  have hl := quo_len x
  have e2 : (34 :: Pl.enc x).length = (Pl.enc x).length + 1 := by simp
  refine cell_of (b := 34) h ?_
  rw [quo_app, List.getElem?_append_right (by omega), show n - (34 :: Pl.enc x).length = 0 by omega]
  rfl

end Cut
end Go.Proofs.Qxb6619578a
