import Derived.Test.Qxb6602616aW3
namespace Go.Proofs.Qxb6602616a
open Go.RowKit Fl
attribute [local go_sem] run_fadd run_fsub run_fmul run_fquo run_store_float setCell_drewN alloc_drewN

/-- one run of a watch, by its plain fields -/
def WR (c : Int) (s : Bool) (rv rw : Nat) (q : Int) (ex : Nat) (stop s2 : Bool) (rv2 rw2 : Nat) (q2 : Int) (e2 : Nat) : Prop :=
  ∃ rv1 rw1, RT c s rv rw rv1 rw1 ∧ WE (s || decide (0 < c)) rv1 rw1 (if 0 < c then 0 else q + 1) (if 0 < c then ex else if q = 0 then rv else ex) stop s2 rv2 rw2 q2 e2

theorem c6_new (w : World) (c : Int) (s : Bool) (rv rw : Nat) (q : Int) (ex : Nat) : Cells6 (w.alloc (.cells #[.int .i64 c, .bool s, .float .f64 rv, .float .f64 rw, .int .i64 q, .float .f64 ex] 41)) w.heap.size c s rv rw q ex := by
  refine ⟨?_, ?_, ?_, ?_, ?_, ?_⟩ <;> go_simp
theorem fz_new (w : World) (c : Int) (s : Bool) (rv rw : Nat) (q : Int) (ex : Nat) (i : Nat) : (w.alloc (.cells #[.int .i64 c, .bool s, .float .f64 rv, .float .f64 rw, .int .i64 q, .float .f64 ex] 41)).frozen? ⟨w.heap.size, i, none⟩ = false :=
  World.frozen?_alloc_new w _ _ i

set_option maxHeartbeats 2000000 in
theorem zzrun9 (c : Int) (s : Bool) (rv rw : Nat) (q : Int) (ex : Nat) (w : World) (hq : 0 < c ∨ 0 ≤ q ∧ q ≤ 4611686018427387904) :
    Calls Try.prog 9 #[.int .i64 c, .bool s, .float .f64 rv, .float .f64 rw, .int .i64 q, .float .f64 ex] w fun e w' => ∃ stop s2 rv2 rw2 q2 e2, WR c s rv rw q ex stop s2 rv2 rw2 q2 e2 ∧
      e = .returned (.tuple #[.bool stop, .int .i64 0, .bool s2, .float .f64 rv2, .float .f64 rw2, .int .i64 q2, .float .f64 e2]) ∧ Below w.heap.size w w' := by
  have hA := c6_new w c s rv rw q ex
  have hF := fz_new w c s rv rw q ex
  have HA : Hid (Cells6 _ _ _ _ _ _ _ _) := hA
  have HF : Hid (∀ i, _ = false) := hF
  clear hA hF
  go_enter Try.func9, Try.ntmps9
  go_wp2_with fail
  refine (run17 w.heap.size c s rv rw q ex _ hq HA.out HF.out).mono ?_
  rintro e w1 ⟨stop, s2, rv2, rw2, q2, e2, rv1, rw1, hRT, hWE, rfl, ⟨h0, h1, h2, h3, h4, h5⟩, hb⟩
  have HR : Hid (WR c s rv rw q ex stop s2 rv2 rw2 q2 e2) := ⟨rv1, rw1, hRT, hWE⟩
  clear hRT hWE HA HF
  go_wp2_with fail
  go_quiet (fail)
  go_wp2_with fail
  refine bodyPost_ret (v := .tuple #[.bool stop, .int .i64 0, .bool s2, .float .f64 rv2, .float .f64 rw2, .int .i64 q2, .float .f64 e2]) (by simp [results, Try.results9, go_sem]) rfl ⟨stop, s2, rv2, rw2, q2, e2, HR.out, rfl, ?_⟩
  exact bdrewN (((Below.refl _ _).alloc (Nat.le_refl _) _).trans hb)
end Go.Proofs.Qxb6602616a
