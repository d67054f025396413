/- FnParseIntReadsBackPaddedDecimal: all inputs. -/
import Derived.Test.Qxb6603754aP4
namespace Go.Proofs.Qxb6603754a
open Go.RowKit

set_option maxHeartbeats 400000 in
theorem back_e1 (n p : Int) (w : World) (h : n ≤ -1000000000) :
    Calls Try.prog 4 #[.int .i64 n, .int .i64 p] w fun e w' => e = .returned (.bool true) ∧ Below w.heap.size w w' := by
  go_enter Try.func4, Try.ntmps4
  go_wp2
  go_ret
  exact ⟨rfl, Below.refl _ _⟩
set_option maxHeartbeats 400000 in
theorem back_e2 (n p : Int) (w : World) (h0 : -1000000000 < n) (h : 1000000000 ≤ n) :
    Calls Try.prog 4 #[.int .i64 n, .int .i64 p] w fun e w' => e = .returned (.bool true) ∧ Below w.heap.size w w' := by
  go_enter Try.func4, Try.ntmps4
  go_wp2
  go_ret
  exact ⟨rfl, Below.refl _ _⟩
set_option maxHeartbeats 400000 in
theorem back_e3 (n p : Int) (w : World) (h0 : -1000000000 < n) (h1 : n < 1000000000) (h : p < 0) :
    Calls Try.prog 4 #[.int .i64 n, .int .i64 p] w fun e w' => e = .returned (.bool true) ∧ Below w.heap.size w w' := by
  go_enter Try.func4, Try.ntmps4
  go_wp2
  go_ret
  exact ⟨rfl, Below.refl _ _⟩
set_option maxHeartbeats 400000 in
theorem back_e4 (n p : Int) (w : World) (h0 : -1000000000 < n) (h1 : n < 1000000000) (h2 : 0 ≤ p) (h : 16 < p) :
    Calls Try.prog 4 #[.int .i64 n, .int .i64 p] w fun e w' => e = .returned (.bool true) ∧ Below w.heap.size w w' := by
  go_enter Try.func4, Try.ntmps4
  go_wp2
  go_ret
  exact ⟨rfl, Below.refl _ _⟩

theorem back_any (n p : Int) (w : World) :
    Calls Try.prog 4 #[.int .i64 n, .int .i64 p] w fun e w' => e = .returned (.bool true) ∧ Below w.heap.size w w' := by
  by_cases h1 : n ≤ -1000000000
  · exact back_e1 n p w h1
  by_cases h2 : 1000000000 ≤ n
  · exact back_e2 n p w (by omega) h2
  by_cases h3 : p < 0
  · exact back_e3 n p w (by omega) (by omega) h3
  by_cases h4 : 16 < p
  · exact back_e4 n p w (by omega) (by omega) (by omega) h4
  obtain ⟨P, rfl⟩ : ∃ m : Nat, p = (m : Int) := ⟨p.toNat, by omega⟩
  by_cases h5 : n < 0
  · exact back_neg (-n).toNat P n h5 (by omega) (by show n = -(((-n).toNat : Nat) : Int); omega) (by omega) (by omega) w
  · obtain ⟨m, rfl⟩ : ∃ m : Nat, n = (m : Int) := ⟨n.toNat, by omega⟩
    exact back_pos m P (by omega) (by omega) w
end Go.Proofs.Qxb6603754a
