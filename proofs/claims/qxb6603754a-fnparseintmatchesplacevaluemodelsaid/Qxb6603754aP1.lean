/- the bytes of a row, and parseInt. -/
import Derived.Test.Qxb6603754aRows
import Derived.WalkKit
import Derived.WalkSpells
import Derived.WalkLawsBesides
import Derived.WalkSmall
import Derived.LoopTactic
namespace Go.Proofs.Qxb6603754a
open Go.RowKit

/-- n cells of block b, the bytes f -/
def RowB (w : World) (b n : Nat) (f : Nat → Int) : Prop := (∀ i, i < n → w.cell? ⟨b, i, none⟩ = some (.int .u8 (f i))) ∧ ∀ i, w.frozen? ⟨b, i, none⟩ = false

theorem cset_same {w : World} {b i : Nat} {v v' : Value} (h : w.cell? ⟨b, i, none⟩ = some v) : (w.setCell ⟨b, i, none⟩ v').cell? ⟨b, i, none⟩ = some v' := by go_simp
theorem cset_other {w : World} {b i j : Nat} {v' : Value} (h : i ≠ j) : (w.setCell ⟨b, i, none⟩ v').cell? ⟨b, j, none⟩ = w.cell? ⟨b, j, none⟩ := by
  have : (⟨b, i, none⟩ : Addr) ≠ ⟨b, j, none⟩ := by intro e; cases e; exact h rfl
  go_simp
theorem bset {a w : World} {b i : Nat} {B : Nat} {v : Value} (h : Below B a w) (hb : B ≤ b) : Below B a (w.setCell ⟨b, i, none⟩ v) := h.setCell hb v
theorem rowB_set {w : World} {b n : Nat} {f : Nat → Int} (h : RowB w b n f) {k : Nat} (hk : k < n) (x : Int) : RowB (w.setCell ⟨b, k, none⟩ (.int .u8 x)) b n (fun i => if i = k then x else f i) := by
  refine ⟨fun i hi => ?_, fun i => by rw [World.frozen?_setCell]; exact h.2 i⟩
  by_cases e : i = k
  · subst e; simp; exact cset_same (h.1 i hi)
  · rw [cset_other (fun x => e x.symm), h.1 i hi]; simp [e]
theorem rowB_below {w w' : World} {b n : Nat} {f : Nat → Int} (h : RowB w b n f) (hb : Below w.heap.size w w') (hl : b < w.heap.size) : RowB w' b n f :=
  ⟨fun i hi => by rw [hb.cell (p := ⟨b, i, none⟩) hl]; exact h.1 i hi, fun i => by rw [hb.frozen (p := ⟨b, i, none⟩) hl]; exact h.2 i⟩

/-- the value of the digits f o, .., f (o + k - 1) -/
def vl (f : Nat → Int) (o : Nat) : Nat → Int
  | 0 => 0
  | k + 1 => 10 * vl f o k + (f (o + k) - 48)
/-- the bytes f o, .., f (o + k - 1) are digits -/
def IsD (f : Nat → Int) (o k : Nat) : Prop := ∀ i, i < k → 48 ≤ f (o + i) ∧ f (o + i) ≤ 57

theorem vl_bd {f : Nat → Int} {o : Nat} : ∀ {k : Nat}, IsD f o k → 0 ≤ vl f o k ∧ vl f o k < 10 ^ k
  | 0, _ => by simp [vl]
  | k + 1, h => by
    have ih := vl_bd (f := f) (o := o) (k := k) fun i hi => h i (by omega)
    have hd := h k (by omega)
    rw [vl, Int.pow_succ]
    omega
theorem vl_nine {f : Nat → Int} {o k : Nat} (h : IsD f o k) (hk : k ≤ 9) : 0 ≤ vl f o k ∧ vl f o k < 1000000000 := by
  have := vl_bd h
  have h2 : (10 : Int) ^ k ≤ 10 ^ 9 := by
    have := Nat.pow_le_pow_right (show 0 < 10 by omega) hk
    exact_mod_cast this
  have : (10 : Int) ^ 9 = 1000000000 := by decide
  omega

/-- where the digits begin -/
def off (f : Nat → Int) (n : Nat) : Nat := if 0 < n ∧ f 0 = 45 then 1 else 0
def Good (f : Nat → Int) (n : Nat) : Prop := 1 ≤ n - off f n ∧ n - off f n ≤ 9 ∧ IsD f (off f n) (n - off f n)
/-- the answer -/
def PR (f : Nat → Int) (n : Nat) (r : Int) (ok : Bool) : Prop :=
  (Good f n ∧ ok = true ∧ r = if off f n = 1 then - vl f (off f n) (n - off f n) else vl f (off f n) (n - off f n)) ∨ (¬ Good f n ∧ ok = false ∧ r = 0)

theorem PR.fn {f : Nat → Int} {n : Nat} {r r' : Int} {ok ok' : Bool} (h : PR f n r ok) (h' : PR f n r' ok') : r = r' ∧ ok = ok' := by
  rcases h with ⟨a, b, c⟩ | ⟨a, b, c⟩ <;> rcases h' with ⟨a', b', c'⟩ | ⟨a', b', c'⟩
  · exact ⟨c.trans c'.symm, b.trans b'.symm⟩
  · exact absurd a a'
  · exact absurd a' a
  · exact ⟨c.trans c'.symm, b.trans b'.symm⟩

/-- v where D holds, else nothing -/
def Ans (D : Prop) (v r : Int) (ok : Bool) : Prop := (D ∧ ok = true ∧ r = v) ∨ (¬ D ∧ ok = false ∧ r = 0)

def Out (D : Prop) (v : Int) (w : World) (e : Ending) (w' : World) : Prop := ∃ r ok, e = .returned (.tuple #[.int .i64 r, .bool ok]) ∧ Ans D v r ok ∧ ∃ m, w' = w.drewN m

set_option maxHeartbeats 400000 in
/-- nil or empty -/
theorem pi_empty (a : Option Addr) (cap : Nat) (w : World) :
    Calls Try.prog 13 #[.slice a 0 cap] w fun e w' => e = .returned (.tuple #[.int .i64 0, .bool false]) ∧ ∃ m, w' = w.drewN m := by
  go_enter Try.func13, Try.ntmps13
  go_wp2
  go_ret2
  exact ⟨rfl, 0, rfl⟩
set_option maxHeartbeats 400000 in
/-- a lone sign -/
theorem pi_lone (g cap : Nat) (w : World) (hc : w.cell? ⟨g, 0, none⟩ = some (.int .u8 45)) (hcap : 1 ≤ cap) :
    Calls Try.prog 13 #[.slice (some ⟨g, 0, none⟩) 1 cap] w fun e w' => e = .returned (.tuple #[.int .i64 0, .bool false]) ∧ ∃ m, w' = w.drewN m := by
  by_cases h1 : cap = 1
  · subst h1
    go_enter Try.func13, Try.ntmps13
    go_wp2
    go_ret2
    exact ⟨rfl, 0, rfl⟩
  · go_enter Try.func13, Try.ntmps13
    go_wp2
    go_ret2
    exact ⟨rfl, 0, rfl⟩
set_option maxHeartbeats 400000 in
theorem pi_longn (g n cap : Nat) (w : World) (hc : w.cell? ⟨g, 0, none⟩ = some (.int .u8 45)) (hcap : n ≤ cap) (hn : 10 < n) :
    Calls Try.prog 13 #[.slice (some ⟨g, 0, none⟩) n cap] w fun e w' => e = .returned (.tuple #[.int .i64 0, .bool false]) ∧ ∃ m, w' = w.drewN m := by
  have h1 : ¬ cap = 1 := by omega
  have h2 : ((n : Int) - 1 == 0) = false := beq_eq_false_iff_ne.2 (by omega)
  go_enter Try.func13, Try.ntmps13
  go_wp2
  go_ret2
  exact ⟨rfl, 0, rfl⟩
set_option maxHeartbeats 400000 in
theorem pi_longp (g n cap : Nat) (c : Int) (w : World) (hc : w.cell? ⟨g, 0, none⟩ = some (.int .u8 c)) (hc2 : c ≠ 45) (hn : 9 < n) :
    Calls Try.prog 13 #[.slice (some ⟨g, 0, none⟩) n cap] w fun e w' => e = .returned (.tuple #[.int .i64 0, .bool false]) ∧ ∃ m, w' = w.drewN m := by
  have h3 : (c == 45) = false := beq_eq_false_iff_ne.2 hc2
  have h2 : ((n : Int) == 0) = false := beq_eq_false_iff_ne.2 (by omega)
  go_enter Try.func13, Try.ntmps13
  go_wp2
  go_ret2
  exact ⟨rfl, 0, rfl⟩
end Go.Proofs.Qxb6603754a
