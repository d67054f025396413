/- the model's parse. -/
import Derived.Test.Qxb6603754aQ1
namespace Go.Proofs.Qxb6603754a
open Go.RowKit

set_option maxHeartbeats 400000 in
theorem mod_empty (a : Option Addr) (cap : Nat) (w : World) :
    Calls Try.prog 9 #[.slice a 0 cap] w fun e w' => e = .returned (.tuple #[.int .i64 0, .bool false]) ∧ ∃ m, w' = w.drewN m := by
  go_enter Try.func9, Try.ntmps9
  go_wp2
  go_ret2
  exact ⟨rfl, 0, rfl⟩
set_option maxHeartbeats 400000 in
theorem mod_lone (g cap : Nat) (w : World) (hc : w.cell? ⟨g, 0, none⟩ = some (.int .u8 45)) :
    Calls Try.prog 9 #[.slice (some ⟨g, 0, none⟩) 1 cap] w fun e w' => e = .returned (.tuple #[.int .i64 0, .bool false]) ∧ ∃ m, w' = w.drewN m := by
  go_enter Try.func9, Try.ntmps9
  go_wp2
  go_ret2
  exact ⟨rfl, 0, rfl⟩
set_option maxHeartbeats 400000 in
theorem mod_longn (g n cap : Nat) (w : World) (hc : w.cell? ⟨g, 0, none⟩ = some (.int .u8 45)) (hn : 10 < n) (hm : n ≤ 1048576) :
    Calls Try.prog 9 #[.slice (some ⟨g, 0, none⟩) n cap] w fun e w' => e = .returned (.tuple #[.int .i64 0, .bool false]) ∧ ∃ m, w' = w.drewN m := by
  go_enter Try.func9, Try.ntmps9
  go_wp2
  go_ret2
  exact ⟨rfl, 0, rfl⟩
set_option maxHeartbeats 400000 in
theorem mod_longp (g n cap : Nat) (c : Int) (w : World) (hc : w.cell? ⟨g, 0, none⟩ = some (.int .u8 c)) (hc2 : c ≠ 45) (hn : 9 < n) (hm : n ≤ 1048576) :
    Calls Try.prog 9 #[.slice (some ⟨g, 0, none⟩) n cap] w fun e w' => e = .returned (.tuple #[.int .i64 0, .bool false]) ∧ ∃ m, w' = w.drewN m := by
  have h3 : (c == 45) = false := beq_eq_false_iff_ne.2 hc2
  go_enter Try.func9, Try.ntmps9
  go_wp2
  go_ret2
  exact ⟨rfl, 0, rfl⟩

set_option maxHeartbeats 1000000 in
theorem mod_pos (g n cap : Nat) (f : Nat → Int) (w : World) (hf : ∀ i, i < n → w.cell? ⟨g, i, none⟩ = some (.int .u8 (f i))) (h0 : f 0 ≠ 45) (hn1 : 1 ≤ n) (hn9 : n ≤ 9) :
    Calls Try.prog 9 #[.slice (some ⟨g, 0, none⟩) n cap] w fun e w' => Out (IsD f 0 n) (vl f 0 n) w e w' := by
  have HF : Hid (∀ i, i < n → w.cell? ⟨g, i, none⟩ = some (.int .u8 (f i))) := hf
  have c0 := hf 0 (by omega)
  have h3 : (f 0 == 45) = false := beq_eq_false_iff_ne.2 h0
  have hn0 : (0 : Int) < (n : Int) := by omega
  clear hf
  go_enter Try.func9, Try.ntmps9
  go_wp2
  go_loopw [6] (fun iv wr => ∃ k j q : Nat, k ≤ n ∧ iv = .int .i64 j ∧ Hid (j = 0 + k ∧ IsD f 0 k) ∧ j ≤ n ∧ wr = w.drewN q) (fun iv _ => n - (intOf iv).toNat)
  case atStart => exact ⟨0, 0, 0, by omega, rfl, ⟨rfl, fun i hi => by omega⟩, by omega, rfl⟩
  case round =>
    obtain ⟨k, j, q, hk, rfl, hI, hj, rfl⟩ := hrel
    by_cases hlt : j < n
    · have hkn : k < n := by have := hI.out.1; omega
      obtain ⟨c, hcell, hcd⟩ : ∃ (c : Int), w.cell? ⟨g, j, none⟩ = some (.int .u8 c) ∧ Hid (c = f (0 + k)) := ⟨_, HF.out j hlt, by show f j = _; rw [hI.out.1]⟩
      have hlt' : (j : Int) < ((n : Nat) : Int) := by omega
      by_cases hcb : 48 ≤ c ∧ c ≤ 57
      · have N : Hid (j + 1 = 0 + (k + 1) ∧ IsD f 0 (k + 1)) := ⟨by have := hI.out.1; omega, isD_succ hI.out.2 (by rw [← hcd.out]; exact hcb.1) (by rw [← hcd.out]; exact hcb.2)⟩
        go_wp2_with (go_at_call 14; refine (dig_y c _ hcb.1 hcb.2).mono ?_; rintro e w' ⟨rfl, q2, rfl⟩)
        go_roundw
        case rel => exact ⟨k + 1, j + 1, _, by omega, by go_num, N, by omega, rfl⟩
        case measure => simp [intOf] <;> omega
      · have N : Hid (¬ IsD f 0 n) := fun h => hcb (by rw [hcd.out]; exact h k hkn)
        go_wp2_with (go_at_call 14; refine (dig_n c _ hcb).mono ?_; rintro e w' ⟨rfl, q2, rfl⟩)
        go_ret2
        exact ⟨0, false, rfl, .inr ⟨N.out, rfl, rfl⟩, _, rfl⟩
    · have hkd : k = n := by have := hI.out.1; omega
      have HD : Hid (IsD f 0 n) := by have := hI.out.2; rw [hkd] at this; exact this
      have hvb := vl_nine HD.out (by omega)
      go_wp2_with fail
      refine (pv15 g n cap 0 n f _ (by omega) (by omega) (by omega) (by intro i hi; exact HF.out i hi) HD.out).mono ?_
      rintro e w' ⟨rfl, q2, rfl⟩
      go_wp2_with fail
      go_ret2
      exact ⟨vl f 0 n, true, rfl, .inl ⟨HD.out, rfl, rfl⟩, _, rfl⟩

set_option maxHeartbeats 1000000 in
theorem mod_neg (g d cap : Nat) (f : Nat → Int) (w : World) (hf : ∀ i, i < d + 1 → w.cell? ⟨g, i, none⟩ = some (.int .u8 (f i))) (h0 : f 0 = 45) (hn1 : 1 ≤ d) (hn9 : d ≤ 9) :
    Calls Try.prog 9 #[.slice (some ⟨g, 0, none⟩) (d + 1) cap] w fun e w' => Out (IsD f 1 d) (- vl f 1 d) w e w' := by
  have HF : Hid (∀ i, i < d + 1 → w.cell? ⟨g, i, none⟩ = some (.int .u8 (f i))) := hf
  have c0 := hf 0 (by omega)
  rw [h0] at c0
  clear hf
  go_enter Try.func9, Try.ntmps9
  go_wp2
  go_loopw [6] (fun iv wr => ∃ k j q : Nat, k ≤ d ∧ iv = .int .i64 j ∧ Hid (j = 1 + k ∧ IsD f 1 k) ∧ j ≤ d + 1 ∧ wr = w.drewN q) (fun iv _ => d + 1 - (intOf iv).toNat)
  case atStart => exact ⟨0, 1, 0, by omega, rfl, ⟨rfl, fun i hi => by omega⟩, by omega, rfl⟩
  case round =>
    obtain ⟨k, j, q, hk, rfl, hI, hj, rfl⟩ := hrel
    by_cases hlt : j < d + 1
    · have hkn : k < d := by have := hI.out.1; omega
      obtain ⟨c, hcell, hcd⟩ : ∃ (c : Int), w.cell? ⟨g, j, none⟩ = some (.int .u8 c) ∧ Hid (c = f (1 + k)) := ⟨_, HF.out j hlt, by show f j = _; rw [hI.out.1]⟩
      have hlt' : (j : Int) < ((d + 1 : Nat) : Int) := by omega
      by_cases hcb : 48 ≤ c ∧ c ≤ 57
      · have N : Hid (j + 1 = 1 + (k + 1) ∧ IsD f 1 (k + 1)) := ⟨by have := hI.out.1; omega, isD_succ hI.out.2 (by rw [← hcd.out]; exact hcb.1) (by rw [← hcd.out]; exact hcb.2)⟩
        go_wp2_with (go_at_call 14; refine (dig_y c _ hcb.1 hcb.2).mono ?_; rintro e w' ⟨rfl, q2, rfl⟩)
        go_roundw
        case rel => exact ⟨k + 1, j + 1, _, by omega, by go_num, N, by omega, rfl⟩
        case measure => simp [intOf] <;> omega
      · have N : Hid (¬ IsD f 1 d) := fun h => hcb (by rw [hcd.out]; exact h k hkn)
        go_wp2_with (go_at_call 14; refine (dig_n c _ hcb).mono ?_; rintro e w' ⟨rfl, q2, rfl⟩)
        go_ret2
        exact ⟨0, false, rfl, .inr ⟨N.out, rfl, rfl⟩, _, rfl⟩
    · have hkd : k = d := by have := hI.out.1; omega
      have HD : Hid (IsD f 1 d) := by have := hI.out.2; rw [hkd] at this; exact this
      have hvb := vl_nine HD.out (by omega)
      go_wp2_with fail
      refine (pv15 g (d + 1) cap 1 d f _ (by omega) (by omega) (by omega) (by intro i hi; exact HF.out i hi) HD.out).mono ?_
      rintro e w' ⟨rfl, q2, rfl⟩
      go_wp2_with fail
      go_ret2
      exact ⟨- vl f 1 d, true, rfl, .inl ⟨HD.out, rfl, rfl⟩, _, rfl⟩

theorem mod_any (g n cap : Nat) (f : Nat → Int) (w : World) (hf : ∀ i, i < n → w.cell? ⟨g, i, none⟩ = some (.int .u8 (f i))) (hmx : n ≤ 1048576) :
    Calls Try.prog 9 #[.slice (some ⟨g, 0, none⟩) n cap] w fun e w' => Out (Good f n) (ansv f n) w e w' := by
  have bad : ¬ Good f n → ∀ e w', e = .returned (.tuple #[.int .i64 0, .bool false]) ∧ (∃ m, w' = w.drewN m) → Out (Good f n) (ansv f n) w e w' :=
    fun h e w' ⟨h1, h2⟩ => ⟨0, false, h1, .inr ⟨h, rfl, rfl⟩, h2⟩
  by_cases hn : n = 0
  · subst hn
    exact (mod_empty _ _ _).mono (bad fun h => by have := h.1; omega)
  by_cases h0 : f 0 = 45
  · have ho : off f n = 1 := by unfold off; rw [if_pos ⟨by omega, h0⟩]
    by_cases h1 : n = 1
    · subst h1
      exact (mod_lone g cap w (by rw [hf 0 (by omega), h0])).mono (bad fun h => by have := h.1; rw [ho] at this; omega)
    by_cases h2 : 10 < n
    · exact (mod_longn g n cap w (by rw [hf 0 (by omega), h0]) h2 hmx).mono (bad fun h => by have := h.2.1; rw [ho] at this; omega)
    obtain ⟨d, rfl⟩ : ∃ d, n = d + 1 := ⟨n - 1, by omega⟩
    refine (mod_neg g d cap f w hf h0 (by omega) (by omega)).mono fun e w' ⟨r, ok, he, ha, hm⟩ => ⟨r, ok, he, ?_, hm⟩
    have hg : Good f (d + 1) ↔ IsD f 1 d := by
      unfold Good
      rw [ho, Nat.add_sub_cancel]
      exact ⟨fun h => h.2.2, fun h => ⟨by omega, by omega, h⟩⟩
    rcases ha with ⟨a, b, c⟩ | ⟨a, b, c⟩
    · exact .inl ⟨hg.2 a, b, by rw [c]; unfold ansv; rw [ho, if_pos rfl, Nat.add_sub_cancel]⟩
    · exact .inr ⟨fun h => a (hg.1 h), b, c⟩
  · have ho : off f n = 0 := by unfold off; rw [if_neg (fun h => h0 h.2)]
    by_cases h2 : 9 < n
    · exact (mod_longp g n cap _ w (hf 0 (by omega)) h0 h2 hmx).mono (bad fun h => by have := h.2.1; rw [ho] at this; omega)
    refine (mod_pos g n cap f w hf h0 (by omega) (by omega)).mono fun e w' ⟨r, ok, he, ha, hm⟩ => ⟨r, ok, he, ?_, hm⟩
    have hg : Good f n ↔ IsD f 0 n := by
      unfold Good
      rw [ho, Nat.sub_zero]
      exact ⟨fun h => h.2.2, fun h => ⟨by omega, by omega, h⟩⟩
    rcases ha with ⟨a, b, c⟩ | ⟨a, b, c⟩
    · exact .inl ⟨hg.2 a, b, by rw [c]; unfold ansv; rw [ho, if_neg (by omega), Nat.sub_zero]⟩
    · exact .inr ⟨fun h => a (hg.1 h), b, c⟩
theorem Ans.fn {D : Prop} {v r r' : Int} {ok ok' : Bool} (h : Ans D v r ok) (h' : Ans D v r' ok') : r = r' ∧ ok = ok' := by
  rcases h with ⟨a, b, c⟩ | ⟨a, b, c⟩ <;> rcases h' with ⟨a', b', c'⟩ | ⟨a', b', c'⟩
  · exact ⟨c.trans c'.symm, b.trans b'.symm⟩
  · exact absurd a a'
  · exact absurd a' a
  · exact ⟨c.trans c'.symm, b.trans b'.symm⟩
end Go.Proofs.Qxb6603754a
