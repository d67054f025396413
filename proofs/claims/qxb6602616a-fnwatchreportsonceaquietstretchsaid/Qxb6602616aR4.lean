import Derived.Test.Qxb6602616aR3
namespace Go.Proofs.Qxb6602616a
open Go.RowKit Fl
attribute [local go_sem] run_fadd run_fsub run_fmul run_fquo run_store_float setCell_drewN alloc_drewN ord_eq ord_ne ord_lt ord_gt ord_le ord_ge

theorem bytes10_n (c : Int) (s : Bool) (rv rw : Nat) (q : Int) (ex : Nat) (a0 : Option Addr) (len cap : Nat) (w : World) (h : 1048576 < len) :
    Calls Try.prog 10 #[.int .i64 c, .bool s, .float .f64 rv, .float .f64 rw, .int .i64 q, .float .f64 ex, .slice a0 len cap] w fun e w' => e = .returned (.bool false) ∧ ∃ n, w' = w.drewN n :=
  (bytes10_no c s rv rw q ex a0 len cap w h).mono fun _ _ ⟨h1, h2⟩ => ⟨h1, 0, h2⟩

set_option maxRecDepth 100000 in
set_option maxHeartbeats 1000000 in
theorem reports_e1 (c : Int) (s : Bool) (rv rw : Nat) (q : Int) (ex : Nat) (a0 : Option Addr) (len cap : Nat) (w : World) (h : 1048576 < len) :
    Calls Try.prog 4 #[.int .i64 c, .bool s, .float .f64 rv, .float .f64 rw, .int .i64 q, .float .f64 ex, .slice a0 len cap] w fun e w' => e = .returned (.bool true) ∧ Below w.heap.size w w' := by
  go_enter Try.func4, Try.ntmps4
  go_wp2_with (go_at_call 10; refine (bytes10_n _ _ _ _ _ _ _ _ _ _ (by omega)).mono ?_; rintro e w' ⟨rfl, m, rfl⟩)
  go_ret
  exact ⟨rfl, bdrewN (Below.refl _ _)⟩

set_option maxRecDepth 100000 in
set_option maxHeartbeats 1000000 in
theorem reports_e2 (c : Int) (s : Bool) (rv rw : Nat) (q : Int) (ex : Nat) (a0 : Option Addr) (len cap : Nat) (w : World) (h : len ≤ 1048576) (h2 : 65536 < len) :
    Calls Try.prog 4 #[.int .i64 c, .bool s, .float .f64 rv, .float .f64 rw, .int .i64 q, .float .f64 ex, .slice a0 len cap] w fun e w' => e = .returned (.bool true) ∧ Below w.heap.size w w' := by
  go_enter Try.func4, Try.ntmps4
  go_wp2_with (go_at_call 10; refine (bytes10_y _ _ _ _ _ _ _ _ _ _ (by omega)).mono ?_; rintro e w' ⟨rfl, m, rfl⟩)
  go_ret
  exact ⟨rfl, bdrewN (Below.refl _ _)⟩

set_option maxRecDepth 100000 in
set_option maxHeartbeats 1000000 in
theorem reports_e3 (c : Int) (s : Bool) (rv rw : Nat) (q : Int) (ex : Nat) (a0 : Option Addr) (len cap : Nat) (w : World) (h : len ≤ 65536) (h2 : q < 0 ∨ 1073741824 < q) :
    Calls Try.prog 4 #[.int .i64 c, .bool s, .float .f64 rv, .float .f64 rw, .int .i64 q, .float .f64 ex, .slice a0 len cap] w fun e w' => e = .returned (.bool true) ∧ Below w.heap.size w w' := by
  rcases h2 with h2 | h2
  · go_enter Try.func4, Try.ntmps4
    go_wp2_with (go_at_call 10; refine (bytes10_y _ _ _ _ _ _ _ _ _ _ (by omega)).mono ?_; rintro e w' ⟨rfl, m, rfl⟩)
    go_ret
    exact ⟨rfl, bdrewN (Below.refl _ _)⟩
  · have h3 : ¬ q < 0 := by omega
    go_enter Try.func4, Try.ntmps4
    go_wp2_with (go_at_call 10; refine (bytes10_y _ _ _ _ _ _ _ _ _ _ (by omega)).mono ?_; rintro e w' ⟨rfl, m, rfl⟩)
    go_ret
    exact ⟨rfl, bdrewN (Below.refl _ _)⟩

set_option maxRecDepth 100000 in
set_option maxHeartbeats 1000000 in
theorem reports_e4 (c : Int) (s : Bool) (rv rw : Nat) (q : Int) (ex : Nat) (a0 : Option Addr) (len cap : Nat) (w : World) (h : len ≤ 65536) (h1 : 0 ≤ q) (h2 : q ≤ 1073741824) (hf : fin rv = false) :
    Calls Try.prog 4 #[.int .i64 c, .bool s, .float .f64 rv, .float .f64 rw, .int .i64 q, .float .f64 ex, .slice a0 len cap] w fun e w' => e = .returned (.bool true) ∧ Below w.heap.size w w' := by
  go_enter Try.func4, Try.ntmps4
  go_wp2_with (first | (go_at_call 10; refine (bytes10_y _ _ _ _ _ _ _ _ _ _ (by omega)).mono ?_; rintro e w' ⟨rfl, m, rfl⟩) | (go_at_call 8; refine (fin8 _ _).mono ?_; rintro e w' ⟨rfl, m, rfl⟩))
  go_ret
  exact ⟨rfl, bdrewN (Below.refl _ _)⟩

set_option maxRecDepth 100000 in
set_option maxHeartbeats 1000000 in
theorem reports_e5 (c : Int) (s : Bool) (rv rw : Nat) (q : Int) (ex : Nat) (a0 : Option Addr) (len cap : Nat) (w : World) (h : len ≤ 65536) (h1 : 0 ≤ q) (h2 : q ≤ 1073741824) (hf : fin rv = true) (hg : fge rw 0 = false) :
    Calls Try.prog 4 #[.int .i64 c, .bool s, .float .f64 rv, .float .f64 rw, .int .i64 q, .float .f64 ex, .slice a0 len cap] w fun e w' => e = .returned (.bool true) ∧ Below w.heap.size w w' := by
  go_enter Try.func4, Try.ntmps4
  go_wp2_with (first | (go_at_call 10; refine (bytes10_y _ _ _ _ _ _ _ _ _ _ (by omega)).mono ?_; rintro e w' ⟨rfl, m, rfl⟩) | (go_at_call 8; refine (fin8 _ _).mono ?_; rintro e w' ⟨rfl, m, rfl⟩))
  go_ret
  exact ⟨rfl, bdrewN (Below.refl _ _)⟩

set_option maxRecDepth 100000 in
set_option maxHeartbeats 1000000 in
theorem reports_e6 (c : Int) (s : Bool) (rv rw : Nat) (q : Int) (ex : Nat) (a0 : Option Addr) (len cap : Nat) (w : World) (h : len ≤ 65536) (h1 : 0 ≤ q) (h2 : q ≤ 1073741824) (hf : fin rv = true) (hg : fge rw 0 = true) (he : fin ex = false) :
    Calls Try.prog 4 #[.int .i64 c, .bool s, .float .f64 rv, .float .f64 rw, .int .i64 q, .float .f64 ex, .slice a0 len cap] w fun e w' => e = .returned (.bool true) ∧ Below w.heap.size w w' := by
  go_enter Try.func4, Try.ntmps4
  go_wp2_with (first | (go_at_call 10; refine (bytes10_y _ _ _ _ _ _ _ _ _ _ (by omega)).mono ?_; rintro e w' ⟨rfl, m, rfl⟩) | (go_at_call 8; refine (fin8 _ _).mono ?_; rintro e w' ⟨rfl, m, rfl⟩))
  go_ret
  exact ⟨rfl, bdrewN (Below.refl _ _)⟩

/-- what the walk is told of the slice: it is nil; or its elements are the numbers z -/
def InRow (w : World) (a : Option Addr) (len cap : Nat) (z : Nat → Int) : Prop :=
  (a = none ∧ len = 0 ∧ cap = 0) ∨ ∃ b off sp, a = some ⟨b, off, sp⟩ ∧ (0 < len → b < w.heap.size) ∧ (∀ i, i < len → w.cell? ⟨b, off + i, none⟩ = some (.int .i64 (z i))) ∧ (0 < len → sp = none)

theorem reports_any (c : Int) (s : Bool) (rv rw : Nat) (q : Int) (ex : Nat) (a0 : Option Addr) (len cap : Nat) (z : Nat → Int) (w : World) (hrow : InRow w a0 len cap z) (hz : ∀ i, -9223372036854775808 ≤ z i ∧ z i ≤ 9223372036854775807)
    (hc1 : -9223372036854775808 ≤ c) (hc2 : c ≤ 9223372036854775807) :
    Calls Try.prog 4 #[.int .i64 c, .bool s, .float .f64 rv, .float .f64 rw, .int .i64 q, .float .f64 ex, .slice a0 len cap] w fun e w' => e = .returned (.bool true) ∧ Below w.heap.size w w' := by
  by_cases h1 : 1048576 < len
  · exact reports_e1 c s rv rw q ex a0 len cap w h1
  by_cases h2 : 65536 < len
  · exact reports_e2 c s rv rw q ex a0 len cap w (by omega) h2
  by_cases h3 : q < 0 ∨ 1073741824 < q
  · exact reports_e3 c s rv rw q ex a0 len cap w (by omega) h3
  cases h4 : fin rv
  · exact reports_e4 c s rv rw q ex a0 len cap w (by omega) (by omega) (by omega) h4
  cases h5 : fge rw 0
  · exact reports_e5 c s rv rw q ex a0 len cap w (by omega) (by omega) (by omega) h4 h5
  cases h6 : fin ex
  · exact reports_e6 c s rv rw q ex a0 len cap w (by omega) (by omega) (by omega) h4 h5 h6
  rcases hrow with ⟨rfl, rfl, rfl⟩ | ⟨b, off, sp, rfl, r1, r2, r3⟩
  · exact reports_nil c s rv rw q ex w hc1 hc2 (by omega) (by omega) h4 h5 h6
  · exact reports_some c s rv rw q ex b off sp len cap z w (by omega) r1 r2 r3 hz hc1 hc2 (by omega) (by omega) h4 h5 h6
end Go.Proofs.Qxb6602616a
