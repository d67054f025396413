import Derived.Test.Qxb6602616aRows
import Derived.WalkKit
import Derived.WalkSpells
import Derived.WalkLawsBesides
import Derived.RegionTactic
import Derived.BigRegion
import Derived.ChangeAlike
import Derived.Deep.Draws
import Derived.Test.Qxb6602616aFl4
namespace Go.Proofs.Qxb6602616a
open Go.RowKit Fl

/-- the tape's answer where the operation gives a NaN -/
def nanOf (x y : Nat) (w : World) : Nat := (Question.nanBits .f64 x y).cut (w.tape w.drawn (Question.nanBits .f64 x y))
def fq (op : BinOp) (x y : Nat) (w : World) : Nat := (floatBits op .f64 x y).getD (nanOf x y w)
def fd (op : BinOp) (x y : Nat) : Nat := if (floatBits op .f64 x y).isSome then 0 else 1

theorem nan_cut (x y t : Nat) : nn ((Question.nanBits .f64 x y).cut t) = false := by
  show nn ((t % 2) * 2 ^ 63 + 0x7ff0000000000000 + 1 + (t / 2) % (2 ^ 52 - 1)) = false
  have h2 : (2 : Nat) ^ 63 = 9223372036854775808 := by decide
  have h3 : (2 : Nat) ^ 52 - 1 = 4503599627370495 := by decide
  rw [h2, h3]
  unfold nn rung
  simp only [decide_eq_false_iff_not]
  have h4 : t / 2 % 4503599627370495 < 4503599627370495 := Nat.mod_lt _ (by omega)
  generalize t / 2 % 4503599627370495 = c at *
  rcases Nat.mod_two_eq_zero_or_one t with h | h <;> rw [h] <;> omega

theorem fq_FR (op : BinOp) (x y : Nat) (w : World) : FR op x y (fq op x y w) := by
  unfold FR fq
  cases h : floatBits op .f64 x y with
  | some r => exact .inl ⟨r, rfl, rfl⟩
  | none => exact .inr ⟨rfl, nan_cut x y _⟩

section
variable {P : Program} (w : World)
theorem run_fany (op : BinOp) (hop : op = .add ∨ op = .sub ∨ op = .mul ∨ op = .quo) (t : TypeId) (x y : Nat) :
    (binOp op t (.float .f64 x) (.float .f64 y)).run P w = .ok (.float .f64 (fq op x y w)) (w.drewN (fd op x y)) := by
  unfold fq fd
  cases h : floatBits op .f64 x y with
  | some r => rw [run_float_arith w op t .f64 x y r h]; rfl
  | none =>
    rcases hop with rfl | rfl | rfl | rfl <;> unfold floatBits at h <;> simp only at h <;> simp [binOp, Op.floatArith, h, Question.forced] <;> exact ⟨rfl, rfl⟩
theorem run_fadd (t : TypeId) (x y : Nat) : (binOp .add t (.float .f64 x) (.float .f64 y)).run P w = .ok (.float .f64 (fq .add x y w)) (w.drewN (fd .add x y)) := run_fany w _ (by simp) t x y
theorem run_fsub (t : TypeId) (x y : Nat) : (binOp .sub t (.float .f64 x) (.float .f64 y)).run P w = .ok (.float .f64 (fq .sub x y w)) (w.drewN (fd .sub x y)) := run_fany w _ (by simp) t x y
theorem run_fmul (t : TypeId) (x y : Nat) : (binOp .mul t (.float .f64 x) (.float .f64 y)).run P w = .ok (.float .f64 (fq .mul x y w)) (w.drewN (fd .mul x y)) := run_fany w _ (by simp) t x y
theorem run_fquo (t : TypeId) (x y : Nat) : (binOp .quo t (.float .f64 x) (.float .f64 y)).run P w = .ok (.float .f64 (fq .quo x y w)) (w.drewN (fd .quo x y)) := run_fany w _ (by simp) t x y
theorem run_store_float (a : Addr) (m : Mode) (k : FloatKind) (b : Nat) : (store a (.float k b) m).run P w = stored P w a (.float k b) m := run_store P w a _ m rfl
theorem setCell_drewN (n : Nat) (a : Addr) (v : Value) : (w.drewN n).setCell a v = (w.setCell a v).drewN n := rfl
theorem alloc_drewN (n : Nat) (o : Obj) : (w.drewN n).alloc o = (w.alloc o).drewN n := rfl
end
attribute [local go_sem] run_fadd run_fsub run_fmul run_fquo run_store_float setCell_drewN alloc_drewN

set_option maxHeartbeats 400000 in
theorem fin8 (x : Nat) (w : World) :
    Calls Try.prog 8 #[.float .f64 x] w fun e w' => e = .returned (.bool (fin x)) ∧ ∃ n, w' = w.drewN n := by
  have h := finite_test (fq_FR .sub x x w)
  have h2 := eq_b (fq .sub x x w) 0
  rw [sv_zero, nn_zero, Bool.and_true, h] at h2
  have H : Hid ((FloatKind.f64.format.order (fq BinOp.sub x x w) 0 == some Ordering.eq) = fin x) := h2
  clear h h2
  go_enter Try.func8, Try.ntmps8
  go_wp2
  go_ret
  exact ⟨by rw [H.out]; rfl, _, rfl⟩

set_option maxHeartbeats 1000000 in
theorem add20 (b off v wt x kp : Nat) (w : World) (h0 : w.cell? ⟨b, off, none⟩ = some (.float .f64 v)) (h1 : w.cell? ⟨b, off + 1, none⟩ = some (.float .f64 wt))
    (f0 : w.frozen? ⟨b, off, none⟩ = false) (f1 : w.frozen? ⟨b, off + 1, none⟩ = false) :
    Calls Try.prog 20 #[.pointer (some ⟨b, off, none⟩), .float .f64 x, .float .f64 kp] w fun e w' => e = .returned (.tuple #[]) ∧ ∃ p wt' d q v' n, FR .mul kp wt p ∧ FR .add p 4607182418800017408 wt' ∧ FR .sub x v d ∧ FR .quo d wt' q ∧ FR .add v q v' ∧
      w' = ((w.setCell ⟨b, off + 1, none⟩ (.float .f64 wt')).setCell ⟨b, off, none⟩ (.float .f64 v')).drewN n := by
  go_enter Try.func20, Try.ntmps20
  go_wp2
  go_region
  go_end0
  exact ⟨rfl, _, _, _, _, _, _, fq_FR _ _ _ _, fq_FR _ _ _ _, fq_FR _ _ _ _, fq_FR _ _ _ _, fq_FR _ _ _ _, rfl⟩
end Go.Proofs.Qxb6602616a
