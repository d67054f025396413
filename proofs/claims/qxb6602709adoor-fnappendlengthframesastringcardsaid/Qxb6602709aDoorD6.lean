import Derived.Test.Qxb6602709aDoorD5
namespace Go.Proofs.Qxb6602709aDoor
open Go.RowKit Go.Sort

set_option maxHeartbeats 400000 in
theorem bytes9_y (a0 : Option Addr) (len cap : Nat) (w : World) (h : len ≤ 1048576) :
    Calls Tryd.prog 9 #[.slice a0 len cap] w fun e w' => e = .returned (.bool true) ∧ ∃ m, w' = w.drewN m := by
  go_enter Tryd.func9, Tryd.ntmps9
  go_wp2
  go_ret
  exact ⟨rfl, 0, rfl⟩
set_option maxHeartbeats 400000 in
theorem bytes9_n (a0 : Option Addr) (len cap : Nat) (w : World) (h : 1048576 < len) :
    Calls Tryd.prog 9 #[.slice a0 len cap] w fun e w' => e = .returned (.bool false) ∧ ∃ m, w' = w.drewN m := by
  go_enter Tryd.func9, Tryd.ntmps9
  go_wp2
  go_ret
  exact ⟨rfl, 0, rfl⟩

set_option maxHeartbeats 400000 in
theorem zzval10 (g n cap : Nat) (w : World) :
    Calls Tryd.prog 10 #[.slice (some ⟨g, 0, none⟩) n cap] w fun e w' => e = .returned (.agg #[.slice (some ⟨g, 0, none⟩) n cap]) ∧ Below w.heap.size w w' := by
  go_enter Tryd.func10, Tryd.ntmps10
  go_wp2
  exact bodyPost_ret (v := .agg #[.slice (some ⟨g, 0, none⟩) n cap]) (by simp [results, Tryd.results10, go_sem]) rfl ⟨rfl, (Below.refl _ _).alloc (Nat.le_refl _) _⟩

set_option maxHeartbeats 400000 in
theorem kind11_s (g n cap : Nat) (c : Int) (w : World) (hn : 0 < n) (hg : g < w.heap.size) (hc : w.cell? ⟨g, 0, none⟩ = some (.int .u8 c)) (h1 : 48 ≤ c) (h2 : c ≤ 57) :
    Calls Tryd.prog 11 #[.agg #[.slice (some ⟨g, 0, none⟩) n cap]] w fun e w' => e = .returned (.int .u8 1) ∧ Below w.heap.size w w' := by
  have hn0 : ((n : Int) == 0) = false := beq_eq_false_iff_ne.2 (by omega)
  have hn1 : (0 : Int) < (n : Int) := by omega
  have e1 : (c == 105) = false := beq_eq_false_iff_ne.2 (by omega)
  have e2 : (c == 108) = false := beq_eq_false_iff_ne.2 (by omega)
  have e3 : (c == 100) = false := beq_eq_false_iff_ne.2 (by omega)
  go_enter Tryd.func11, Tryd.ntmps11
  go_wp2
  go_ret
  exact ⟨rfl, (Below.refl _ _).alloc (Nat.le_refl _) _⟩

set_option maxHeartbeats 400000 in
theorem int12_s (g n cap : Nat) (c : Int) (w : World) (hn : 0 < n) (hg : g < w.heap.size) (hc : w.cell? ⟨g, 0, none⟩ = some (.int .u8 c)) (h1 : 48 ≤ c) (h2 : c ≤ 57) :
    Calls Tryd.prog 12 #[.agg #[.slice (some ⟨g, 0, none⟩) n cap]] w fun e w' => e = .returned (.tuple #[.int .i64 0, .bool false]) ∧ Below w.heap.size w w' := by
  have HC : Hid ((w.alloc (.cells #[.slice (some ⟨g, 0, none⟩) n cap] 30)).cell? ⟨g, 0, none⟩ = some (.int .u8 c)) := by
    show _ = _
    rw [World.cell?_alloc_lt _ _ _ hg]; exact hc
  clear hc
  go_enter Tryd.func12, Tryd.ntmps12
  go_wp2_with (go_at_call 11; refine (kind11_s g n cap c _ hn (by simp; omega) HC.out h1 h2).mono ?_; rintro e w1 ⟨rfl, hb⟩)
  go_ret2
  exact ⟨rfl, ((Below.refl _ _).alloc (Nat.le_refl _) _).trans (hb.mono (by simp))⟩
end Go.Proofs.Qxb6602709aDoor
