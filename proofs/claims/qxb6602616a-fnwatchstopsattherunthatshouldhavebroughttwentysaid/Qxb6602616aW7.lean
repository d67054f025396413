import Derived.Test.Qxb6602616aW6
namespace Go.Proofs.Qxb6602616a
open Go.RowKit Fl
attribute [local go_sem] run_fadd run_fsub run_fmul run_fquo run_store_float setCell_drewN alloc_drewN ord_eq ord_ne ord_lt ord_gt ord_le ord_ge

set_option maxRecDepth 100000 in
set_option maxHeartbeats 2000000 in
theorem stops_early1 (F : Int) (s : Bool) (rv rw : Nat) (q : Int) (ex : Nat) (n : Int) (w : World) (h : n < 0 ∨ 65536 < n) :
    Calls Try.prog 3 #[.int .i64 F, .bool s, .float .f64 rv, .float .f64 rw, .int .i64 q, .float .f64 ex, .int .i64 n] w fun e w' => e = .returned (.bool true) ∧ Below w.heap.size w w' := by
  rcases h with h | h
  · go_enter Try.func3, Try.ntmps3
    go_wp2_with fail
    go_ret
    exact ⟨rfl, Below.refl _ _⟩
  · have h2 : ¬ n < 0 := by omega
    go_enter Try.func3, Try.ntmps3
    go_wp2_with fail
    go_ret
    exact ⟨rfl, Below.refl _ _⟩

set_option maxRecDepth 100000 in
set_option maxHeartbeats 2000000 in
theorem stops_early2 (F : Int) (s : Bool) (rv rw : Nat) (q : Int) (ex : Nat) (n : Int) (w : World) (hn0 : 0 ≤ n) (hn1 : n ≤ 65536) (h : F < 1) :
    Calls Try.prog 3 #[.int .i64 F, .bool s, .float .f64 rv, .float .f64 rw, .int .i64 q, .float .f64 ex, .int .i64 n] w fun e w' => e = .returned (.bool true) ∧ Below w.heap.size w w' := by
  go_enter Try.func3, Try.ntmps3
  go_wp2_with fail
  go_ret
  exact ⟨rfl, Below.refl _ _⟩

set_option maxRecDepth 100000 in
set_option maxHeartbeats 2000000 in
theorem stops_early3 (F : Int) (s : Bool) (rv rw : Nat) (q : Int) (ex : Nat) (n : Int) (w : World) (hn0 : 0 ≤ n) (hn1 : n ≤ 65536) (hF : 1 ≤ F) (h : feq rv (floatOfInt .f64 F) = false) :
    Calls Try.prog 3 #[.int .i64 F, .bool s, .float .f64 rv, .float .f64 rw, .int .i64 q, .float .f64 ex, .int .i64 n] w fun e w' => e = .returned (.bool true) ∧ Below w.heap.size w w' := by
  go_enter Try.func3, Try.ntmps3
  go_wp2_with fail
  go_ret
  exact ⟨rfl, Below.refl _ _⟩

set_option maxRecDepth 100000 in
set_option maxHeartbeats 2000000 in
theorem stops_early4 (F : Int) (s : Bool) (rv rw : Nat) (q : Int) (ex : Nat) (n : Int) (w : World) (hn0 : 0 ≤ n) (hn1 : n ≤ 65536) (hF : 1 ≤ F) (hv : feq rv (floatOfInt .f64 F) = true) (h : fge rw 0 = false) :
    Calls Try.prog 3 #[.int .i64 F, .bool s, .float .f64 rv, .float .f64 rw, .int .i64 q, .float .f64 ex, .int .i64 n] w fun e w' => e = .returned (.bool true) ∧ Below w.heap.size w w' := by
  go_enter Try.func3, Try.ntmps3
  go_wp2_with fail
  go_ret
  exact ⟨rfl, Below.refl _ _⟩

set_option maxRecDepth 100000 in
set_option maxHeartbeats 2000000 in
theorem stops_early5 (F : Int) (s : Bool) (rv rw : Nat) (q : Int) (ex : Nat) (n : Int) (w : World) (hn0 : 0 ≤ n) (hn1 : n ≤ 65536) (hF : 1 ≤ F) (hv : feq rv (floatOfInt .f64 F) = true) (hr : fge rw 0 = true) (h : fin ex = false) :
    Calls Try.prog 3 #[.int .i64 F, .bool s, .float .f64 rv, .float .f64 rw, .int .i64 q, .float .f64 ex, .int .i64 n] w fun e w' => e = .returned (.bool true) ∧ Below w.heap.size w w' := by
  go_enter Try.func3, Try.ntmps3
  go_wp2_with (go_at_call 8; go_loud (refine (fin8 _ _).mono ?_); rintro e w' ⟨rfl, m, rfl⟩)
  go_ret
  exact ⟨rfl, bdrewN (Below.refl _ _)⟩

theorem stops_any (F : Int) (s : Bool) (rv rw : Nat) (q : Int) (ex : Nat) (n : Int) (w : World) (hF2 : F ≤ 9223372036854775807) :
    Calls Try.prog 3 #[.int .i64 F, .bool s, .float .f64 rv, .float .f64 rw, .int .i64 q, .float .f64 ex, .int .i64 n] w fun e w' => e = .returned (.bool true) ∧ Below w.heap.size w w' := by
  by_cases h1 : n < 0 ∨ 65536 < n
  · exact stops_early1 F s rv rw q ex n w h1
  have hn0 : 0 ≤ n := by omega
  have hn1 : n ≤ 65536 := by omega
  by_cases h2 : F < 1
  · exact stops_early2 F s rv rw q ex n w hn0 hn1 h2
  have hF : 1 ≤ F := by omega
  cases hv : feq rv (floatOfInt .f64 F)
  · exact stops_early3 F s rv rw q ex n w hn0 hn1 hF hv
  cases hr : fge rw 0
  · exact stops_early4 F s rv rw q ex n w hn0 hn1 hF hv hr
  cases he : fin ex
  · exact stops_early5 F s rv rw q ex n w hn0 hn1 hF hv hr he
  by_cases h20 : F < 20
  · cases s
    · exact stops_f_small F rv rw q ex n w hn0 hn1 hF hF2 h20 hv hr he
    · exact stops_t_small F rv rw q ex n w hn0 hn1 hF hF2 h20 hv hr he
  · cases s
    · exact stops_f_big F rv rw q ex n w hn0 hn1 hF hF2 h20 hv hr he
    · exact stops_t_big F rv rw q ex n w hn0 hn1 hF hF2 h20 hv hr he
end Go.Proofs.Qxb6602616a
