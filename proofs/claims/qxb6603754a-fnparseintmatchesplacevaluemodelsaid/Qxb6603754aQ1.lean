/- the model: isDigit, placeValue. -/
import Derived.Test.Qxb6603754aP2
namespace Go.Proofs.Qxb6603754a
open Go.RowKit

/-- the value of the t digits ahead of place hi, from the right -/
def sv (f : Nat → Int) (hi : Nat) : Nat → Int
  | 0 => 0
  | t + 1 => sv f hi t + (f (hi - (t + 1)) - 48) * 10 ^ t
theorem sv_step (f : Nat → Int) (hi : Nat) : ∀ t, sv f (hi + 1) (t + 1) = 10 * sv f hi t + (f hi - 48)
  | 0 => by simp [sv]
  | t + 1 => by
    rw [sv, sv_step f hi t, sv, show hi + 1 - (t + 1 + 1) = hi - (t + 1) from by omega, Int.pow_succ]
    rw [Int.mul_add, ← Int.mul_assoc]
    have : (f (hi - (t + 1)) - 48) * 10 ^ t * 10 = 10 * ((f (hi - (t + 1)) - 48) * 10 ^ t) := Int.mul_comm _ _
    omega
theorem sv_vl (f : Nat → Int) (o : Nat) : ∀ k, sv f (o + k) k = vl f o k
  | 0 => rfl
  | k + 1 => by rw [← Nat.add_assoc, sv_step, sv_vl f o k, vl]
theorem pow_nine {t : Nat} (h : t ≤ 9) : (1 : Int) ≤ 10 ^ t ∧ (10 : Int) ^ t ≤ 1000000000 := by
  have h1 := Nat.pow_le_pow_right (show 0 < 10 by omega) h
  have h2 := Nat.pow_pos (n := t) (show 0 < 10 by omega)
  have e : ((10 ^ t : Nat) : Int) = (10 : Int) ^ t := by simp
  omega
theorem sv_bd {f : Nat → Int} {hi : Nat} : ∀ {t : Nat}, (∀ j, j < t → 48 ≤ f (hi - (j + 1)) ∧ f (hi - (j + 1)) ≤ 57) → 0 ≤ sv f hi t ∧ sv f hi t < 10 ^ t
  | 0, _ => by simp [sv]
  | t + 1, h => by
    have ih := sv_bd (f := f) (hi := hi) (t := t) fun j hj => h j (by omega)
    have hd := h t (by omega)
    rw [sv, Int.pow_succ]
    have hp : (0 : Int) ≤ 10 ^ t := Int.le_of_lt (by have := Nat.pow_pos (n := t) (show 0 < 10 by omega); have e : ((10 ^ t : Nat) : Int) = (10 : Int) ^ t := by simp
                                                     omega)
    have a := Int.mul_nonneg (show 0 ≤ f (hi - (t + 1)) - 48 by omega) hp
    have b := Int.mul_le_mul_of_nonneg_right (show f (hi - (t + 1)) - 48 ≤ 9 by omega) hp
    omega

set_option maxHeartbeats 400000 in
theorem dig_y (c : Int) (w : World) (h1 : 48 ≤ c) (h2 : c ≤ 57) : Calls Try.prog 14 #[.int .u8 c] w fun e w' => e = .returned (.bool true) ∧ ∃ m, w' = w.drewN m := by
  go_enter Try.func14, Try.ntmps14
  go_wp2
  go_ret
  exact ⟨rfl, 0, rfl⟩
set_option maxHeartbeats 400000 in
theorem dig_n1 (c : Int) (w : World) (h1 : c < 48) : Calls Try.prog 14 #[.int .u8 c] w fun e w' => e = .returned (.bool false) ∧ ∃ m, w' = w.drewN m := by
  go_enter Try.func14, Try.ntmps14
  go_wp2
  go_ret
  exact ⟨rfl, 0, rfl⟩
set_option maxHeartbeats 400000 in
theorem dig_n2 (c : Int) (w : World) (h1 : 48 ≤ c) (h2 : 57 < c) : Calls Try.prog 14 #[.int .u8 c] w fun e w' => e = .returned (.bool false) ∧ ∃ m, w' = w.drewN m := by
  have h3 : decide (c ≤ 57) = false := decide_eq_false (by omega)
  go_enter Try.func14, Try.ntmps14
  go_wp2
  go_ret
  exact ⟨rfl, 0, rfl⟩
theorem dig_n (c : Int) (w : World) (h : ¬ (48 ≤ c ∧ c ≤ 57)) : Calls Try.prog 14 #[.int .u8 c] w fun e w' => e = .returned (.bool false) ∧ ∃ m, w' = w.drewN m := by
  by_cases h1 : c < 48
  · exact dig_n1 c w h1
  · exact dig_n2 c w (by omega) (by omega)

set_option maxHeartbeats 1000000 in
theorem pv15 (g n cap lo d : Nat) (f : Nat → Int) (w : World) (hn : n = lo + d) (hlo : lo ≤ 1) (hd : d ≤ 9) (hf : ∀ i, i < n → w.cell? ⟨g, i, none⟩ = some (.int .u8 (f i))) (hD : IsD f lo d) :
    Calls Try.prog 15 #[.slice (some ⟨g, 0, none⟩) n cap, .int .i64 lo, .int .i64 n] w fun e w' => e = .returned (.int .i64 (vl f lo d)) ∧ ∃ m, w' = w.drewN m := by
  have HF : Hid ((∀ i, i < n → w.cell? ⟨g, i, none⟩ = some (.int .u8 (f i))) ∧ IsD f lo d ∧ n = lo + d) := ⟨hf, hD, hn⟩
  have hn10 : n ≤ 10 := by omega
  clear hf hD hn
  go_enter Try.func15, Try.ntmps15
  go_wp2
  go_loop [7, 8, 9] (fun vv pv iv => ∃ (t : Nat) (v p ix : Int), t ≤ d ∧ vv = .int .i64 v ∧ pv = .int .i64 p ∧ iv = .int .i64 ix ∧ (-1 ≤ ix ∧ ix ≤ 9) ∧ (0 ≤ v ∧ v ≤ 1000000000) ∧ (1 ≤ p ∧ p ≤ 1000000000) ∧ Hid (ix = (n : Int) - 1 - (t : Int) ∧ v = sv f n t ∧ p = 10 ^ t)) (fun _ _ iv => (intOf iv + 1).toNat)
  case atStart => exact ⟨0, 0, 1, (n : Int) - 1, by omega, rfl, rfl, rfl, by omega, by omega, by omega, by omega, rfl, rfl⟩
  case round =>
    obtain ⟨t, v, p, ix, ht, rfl, rfl, rfl, hix, hv, hp, hI⟩ := hrel
    by_cases hlt : t < d
    · obtain ⟨hix2, hvs, hps⟩ := hI.out
      have hnl := HF.out.2.2
      obtain ⟨j, rfl⟩ : ∃ j : Nat, ix = (j : Int) := ⟨ix.toNat, by omega⟩
      have hjn : (j : Int) < (n : Int) := by omega
      have hlj : (lo : Int) ≤ (j : Int) := by omega
      have hdd : ∀ k, k < t + 1 → 48 ≤ f (n - (k + 1)) ∧ f (n - (k + 1)) ≤ 57 := fun k hk => by
        have := HF.out.2.1 (d - (k + 1)) (by omega)
        rw [show lo + (d - (k + 1)) = n - (k + 1) from by omega] at this
        exact this
      obtain ⟨c, hcell, hcd, hcb⟩ : ∃ c : Int, w.cell? ⟨g, j, none⟩ = some (.int .u8 c) ∧ Hid (c = f (n - (t + 1))) ∧ 48 ≤ c ∧ c ≤ 57 :=
        ⟨_, HF.out.1 j (by omega), by show f j = _; rw [show j = n - (t + 1) from by omega], by rw [show j = n - (t + 1) from by omega]; exact hdd t (by omega)⟩
      have hs1 := sv_bd hdd
      have hp9 := pow_nine (t := t + 1) (by omega)
      have hsv : v + (c - 48) * p = sv f n (t + 1) := by rw [sv, hcd.out.symm, ← hps, ← hvs]
      have hm0 : 0 ≤ (c - 48) * p := Int.mul_nonneg (by omega) (by omega)
      have hsm : v + (c - 48) * p ≤ 1000000000 := by omega
      have hsm0 : (c - 48) * p ≤ 1000000000 := by omega
      have hpp : p * 10 ≤ 1000000000 := by rw [hps, ← Int.pow_succ]; omega
      have N : Hid ((j : Int) - 1 = (n : Int) - 1 - ((t + 1 : Nat) : Int) ∧ v + (c - 48) * p = sv f n (t + 1) ∧ p * 10 = 10 ^ (t + 1)) := ⟨by omega, hsv, by rw [hps, Int.pow_succ]⟩
      clear hI hix2 hvs hps hnl hdd hs1 hp9 hsv
      go_wp2
      go_round
      case rel => exact ⟨t + 1, v + (c - 48) * p, p * 10, (j : Int) - 1, by omega, rfl, rfl, rfl, by omega, by omega, by omega, N⟩
      case measure => simp [intOf] <;> omega
    · obtain rfl : t = d := by omega
      obtain ⟨hix2, hvs, hps⟩ := hI.out
      have hnl := HF.out.2.2
      have hlj : ¬ (lo : Int) ≤ ix := by omega
      have N : Hid (v = vl f lo t) := by
        show _ = _
        rw [hvs, hnl, sv_vl]
      clear hI hix2 hvs hps hnl
      go_wp2
      go_ret
      exact ⟨by show Ending.returned (.int .i64 v) = _; rw [N.out], 0, rfl⟩
end Go.Proofs.Qxb6603754a
