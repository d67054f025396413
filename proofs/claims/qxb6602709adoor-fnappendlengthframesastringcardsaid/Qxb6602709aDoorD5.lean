import Derived.Test.Qxb6602709aDoorD4
namespace Go.Proofs.Qxb6602709aDoor
open Go.RowKit Go.Sort

set_option maxHeartbeats 400000 in
theorem writes_e1 (a0 : Option Addr) (len cap : Nat) (n : Int) (w : World) (h : 1048576 < len) :
    Calls Tryd.prog 3 #[.slice a0 len cap, .int .i64 n] w fun e w' => e = .returned (.bool true) ∧ Below w.heap.size w w' := by
  go_enter Tryd.func3, Tryd.ntmps3
  go_wp2_with (go_at_call 5; refine (bytes5_n _ _ _ _ _ (by omega)).mono ?_; rintro e w' ⟨rfl, m, rfl⟩)
  go_ret
  exact ⟨rfl, below_drewN (Below.refl _ _) _⟩
set_option maxHeartbeats 400000 in
theorem writes_e2 (a0 : Option Addr) (len cap : Nat) (n : Int) (w : World) (h : len ≤ 1048576) (hn : n < 0) :
    Calls Tryd.prog 3 #[.slice a0 len cap, .int .i64 n] w fun e w' => e = .returned (.bool true) ∧ Below w.heap.size w w' := by
  go_enter Tryd.func3, Tryd.ntmps3
  go_wp2_with (go_at_call 5; refine (bytes5_y _ _ _ _ _ (by omega)).mono ?_; rintro e w' ⟨rfl, m, rfl⟩)
  go_ret
  exact ⟨rfl, below_drewN (Below.refl _ _) _⟩

/-- what the walk is told of a slice of bytes that came in: it is nil; or its elements are the bytes L -/
def InB (w : World) (a : Option Addr) (len cap : Nat) (L : List Int) : Prop :=
  (a = none ∧ len = 0 ∧ cap = 0) ∨ ∃ x, a = some x ∧ L.length = len ∧ (0 < L.length → ∀ j u, (L.map (Value.int .u8))[j]? = some u → w.cell? (x.add j) = some u)

theorem writes_any (a0 : Option Addr) (len cap : Nat) (L : List Int) (n : Int) (w : World) (hin : InB w a0 len cap L) (hn : n ≤ 9223372036854775807) (htab : Lib.TabIs Tryd.prog w tabName .u64 Lib.pow10Tab) :
    Calls Tryd.prog 3 #[.slice a0 len cap, .int .i64 n] w fun e w' => e = .returned (.bool true) ∧ Below w.heap.size w w' := by
  by_cases h1 : 1048576 < len
  · exact writes_e1 a0 len cap n w h1
  by_cases h2 : n < 0
  · exact writes_e2 a0 len cap n w (by omega) h2
  obtain ⟨m, rfl⟩ : ∃ m : Nat, n = (m : Int) := ⟨n.toNat, by omega⟩
  rcases hin with ⟨rfl, rfl, rfl⟩ | ⟨x, rfl, rfl, hs⟩
  · exact writes_nil m w (by omega) htab
  · exact writes_some x cap L m w (by omega) (by omega) hs htab
end Go.Proofs.Qxb6602709aDoor
