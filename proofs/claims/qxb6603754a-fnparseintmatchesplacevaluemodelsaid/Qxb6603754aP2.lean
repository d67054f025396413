/- parseInt's loop. -/
import Derived.Test.Qxb6603754aP1
namespace Go.Proofs.Qxb6603754a
open Go.RowKit

theorem isD_succ {f : Nat → Int} {o k : Nat} (h : IsD f o k) (h1 : 48 ≤ f (o + k)) (h2 : f (o + k) ≤ 57) : IsD f o (k + 1) := fun i hi => by
  by_cases e : i = k
  · subst e; exact ⟨h1, h2⟩
  · exact h i (by omega)

set_option maxHeartbeats 1000000 in
theorem pi_pos (g n cap : Nat) (f : Nat → Int) (w : World) (hf : ∀ i, i < n → w.cell? ⟨g, i, none⟩ = some (.int .u8 (f i))) (h0 : f 0 ≠ 45) (hn1 : 1 ≤ n) (hn9 : n ≤ 9) (hb : ∀ i, i < n → 0 ≤ f i ∧ f i ≤ 255) :
    Calls Try.prog 13 #[.slice (some ⟨g, 0, none⟩) n cap] w fun e w' => Out (IsD f 0 n) (vl f 0 n) w e w' := by
  have HF : Hid ((∀ i, i < n → w.cell? ⟨g, i, none⟩ = some (.int .u8 (f i))) ∧ ∀ i, i < n → 0 ≤ f i ∧ f i ≤ 255) := ⟨hf, hb⟩
  have c0 := hf 0 (by omega)
  have h3 : (f 0 == 45) = false := beq_eq_false_iff_ne.2 h0
  have h2 : ((n : Int) == 0) = false := beq_eq_false_iff_ne.2 (by omega)
  clear hf hb
  go_enter Try.func13, Try.ntmps13
  go_wp2
  go_loop [5, 30] (fun nv iv => ∃ (k : Nat) (p : Int), k ≤ n ∧ iv = .int .i64 k ∧ nv = .int .i64 p ∧ Hid (p = vl f 0 k ∧ IsD f 0 k)) (fun _ iv => n - (intOf iv).toNat)
  case atStart => exact ⟨0, 0, by omega, rfl, rfl, rfl, fun i hi => by omega⟩
  case round =>
    obtain ⟨k, p, hk, rfl, rfl, hp⟩ := hrel
    by_cases hlt : k < n
    · obtain ⟨hpv, hpd⟩ := hp.out
      have hvb := vl_nine hpd (by omega)
      have hp1 : 0 ≤ p := by omega
      have hp2 : p < 1000000000 := by omega
      obtain ⟨c, hcell, hcd, hcb⟩ : ∃ (c : Int), w.cell? ⟨g, k, none⟩ = some (.int .u8 c) ∧ Hid (c = f k) ∧ 0 ≤ c ∧ c ≤ 255 := ⟨_, HF.out.1 k hlt, rfl, HF.out.2 k hlt⟩
      have hlt' : (k : Int) < (n : Int) := by omega
      clear hp hvb
      by_cases hc1 : c < 48
      · have N : Hid (¬ IsD f 0 n) := fun h => by
          have h1 := h k hlt
          rw [Nat.zero_add] at h1
          have := hcd.out; omega
        go_wp2
        go_ret2
        exact ⟨0, false, rfl, .inr ⟨N.out, rfl, rfl⟩, 0, rfl⟩
      by_cases hc2 : 57 < c
      · have N : Hid (¬ IsD f 0 n) := fun h => by
          have h1 := h k hlt
          rw [Nat.zero_add] at h1
          have := hcd.out; omega
        go_wp2
        go_ret2
        exact ⟨0, false, rfl, .inr ⟨N.out, rfl, rfl⟩, 0, rfl⟩
      have N : Hid (10 * p + (c - 48) = vl f 0 (k + 1) ∧ IsD f 0 (k + 1)) := by
        have := hcd.out
        have h1 : f (0 + k) = c := by rw [Nat.zero_add]; exact this.symm
        refine ⟨by rw [vl, h1, ← hpv], isD_succ hpd (by omega) (by omega)⟩
      clear hpv hpd
      go_wp2
      go_round
      case rel => exact ⟨k + 1, 10 * p + (c - 48), by omega, by go_num, by go_num, N⟩
      case measure => simp [intOf]; omega
    · obtain rfl : k = n := by omega
      go_wp2
      go_ret2
      exact ⟨p, true, rfl, .inl ⟨hp.out.2, rfl, hp.out.1⟩, 0, rfl⟩

set_option maxHeartbeats 1000000 in
theorem pi_neg (g d cap : Nat) (f : Nat → Int) (w : World) (hf : ∀ i, i < d + 1 → w.cell? ⟨g, i, none⟩ = some (.int .u8 (f i))) (h0 : f 0 = 45) (hcap : d + 1 ≤ cap) (hn1 : 1 ≤ d) (hn9 : d ≤ 9) (hb : ∀ i, i < d + 1 → 0 ≤ f i ∧ f i ≤ 255) :
    Calls Try.prog 13 #[.slice (some ⟨g, 0, none⟩) (d + 1) cap] w fun e w' => Out (IsD f 1 d) (- vl f 1 d) w e w' := by
  have HF : Hid ((∀ i, i < d + 1 → w.cell? ⟨g, i, none⟩ = some (.int .u8 (f i))) ∧ ∀ i, i < d + 1 → 0 ≤ f i ∧ f i ≤ 255) := ⟨hf, hb⟩
  have c0 := hf 0 (by omega)
  rw [h0] at c0
  have h2 : ((d : Int) == 0) = false := beq_eq_false_iff_ne.2 (by omega)
  have h1 : ¬ cap = 1 := by omega
  clear hf hb
  go_enter Try.func13, Try.ntmps13
  go_wp2
  go_loop [5, 30] (fun nv iv => ∃ (k : Nat) (p : Int), k ≤ d ∧ iv = .int .i64 k ∧ nv = .int .i64 p ∧ Hid (p = vl f 1 k ∧ IsD f 1 k)) (fun _ iv => d - (intOf iv).toNat)
  case atStart => exact ⟨0, 0, by omega, rfl, rfl, rfl, fun i hi => by omega⟩
  case round =>
    obtain ⟨k, p, hk, rfl, rfl, hp⟩ := hrel
    by_cases hlt : k < d
    · obtain ⟨hpv, hpd⟩ := hp.out
      have hvb := vl_nine hpd (by omega)
      have hp1 : 0 ≤ p := by omega
      have hp2 : p < 1000000000 := by omega
      obtain ⟨c, hcell, hcd, hcb⟩ : ∃ (c : Int), w.cell? ⟨g, 1 + k, none⟩ = some (.int .u8 c) ∧ Hid (c = f (1 + k)) ∧ 0 ≤ c ∧ c ≤ 255 := ⟨_, HF.out.1 (1 + k) (by omega), rfl, HF.out.2 (1 + k) (by omega)⟩
      have hlt' : (k : Int) < (d : Int) := by omega
      clear hp hvb
      by_cases hc1 : c < 48
      · have N : Hid (¬ IsD f 1 d) := fun h => by
          have h1 := h k hlt
          have := hcd.out; omega
        go_wp2
        go_ret2
        exact ⟨0, false, rfl, .inr ⟨N.out, rfl, rfl⟩, 0, rfl⟩
      by_cases hc2 : 57 < c
      · have N : Hid (¬ IsD f 1 d) := fun h => by
          have h1 := h k hlt
          have := hcd.out; omega
        go_wp2
        go_ret2
        exact ⟨0, false, rfl, .inr ⟨N.out, rfl, rfl⟩, 0, rfl⟩
      have N : Hid (10 * p + (c - 48) = vl f 1 (k + 1) ∧ IsD f 1 (k + 1)) := by
        have h1 : f (1 + k) = c := hcd.out.symm
        refine ⟨by rw [vl, h1, ← hpv], isD_succ hpd (by omega) (by omega)⟩
      clear hpv hpd
      go_wp2
      go_round
      case rel => exact ⟨k + 1, 10 * p + (c - 48), by omega, by go_num, by go_num, N⟩
      case measure => simp [intOf]; omega
    · obtain rfl : k = d := by omega
      have hvb := vl_nine hp.out.2 (by omega)
      have hp1 : 0 ≤ p := by have := hp.out.1; omega
      have hp2 : p < 1000000000 := by have := hp.out.1; omega
      go_wp2
      go_ret2
      exact ⟨-p, true, rfl, .inl ⟨hp.out.2, rfl, by rw [hp.out.1]⟩, 0, rfl⟩

/-- the answer, by name -/
def ansv (f : Nat → Int) (n : Nat) : Int := if off f n = 1 then - vl f (off f n) (n - off f n) else vl f (off f n) (n - off f n)
theorem pi_any (g n cap : Nat) (f : Nat → Int) (w : World) (hf : ∀ i, i < n → w.cell? ⟨g, i, none⟩ = some (.int .u8 (f i))) (hcap : n ≤ cap) (hb : ∀ i, i < n → 0 ≤ f i ∧ f i ≤ 255) :
    Calls Try.prog 13 #[.slice (some ⟨g, 0, none⟩) n cap] w fun e w' => Out (Good f n) (ansv f n) w e w' := by
  have bad : ¬ Good f n → ∀ e w', e = .returned (.tuple #[.int .i64 0, .bool false]) ∧ (∃ m, w' = w.drewN m) → Out (Good f n) (ansv f n) w e w' :=
    fun h e w' ⟨h1, h2⟩ => ⟨0, false, h1, .inr ⟨h, rfl, rfl⟩, h2⟩
  by_cases hn : n = 0
  · subst hn
    exact (pi_empty _ _ _).mono (bad fun h => by have := h.1; omega)
  by_cases h0 : f 0 = 45
  · have ho : off f n = 1 := by unfold off; rw [if_pos ⟨by omega, h0⟩]
    by_cases h1 : n = 1
    · subst h1
      exact (pi_lone g cap w (by rw [hf 0 (by omega), h0]) hcap).mono (bad fun h => by have := h.1; rw [ho] at this; omega)
    by_cases h2 : 10 < n
    · exact (pi_longn g n cap w (by rw [hf 0 (by omega), h0]) hcap h2).mono (bad fun h => by have := h.2.1; rw [ho] at this; omega)
    obtain ⟨d, rfl⟩ : ∃ d, n = d + 1 := ⟨n - 1, by omega⟩
    refine (pi_neg g d cap f w hf h0 hcap (by omega) (by omega) hb).mono fun e w' ⟨r, ok, he, ha, hm⟩ => ⟨r, ok, he, ?_, hm⟩
    have hg : Good f (d + 1) ↔ IsD f 1 d := by
      unfold Good
      rw [ho, Nat.add_sub_cancel]
      exact ⟨fun h => h.2.2, fun h => ⟨by omega, by omega, h⟩⟩
    rcases ha with ⟨a, b, c⟩ | ⟨a, b, c⟩
    · exact .inl ⟨hg.2 a, b, by rw [c]; unfold ansv; rw [ho, if_pos rfl, Nat.add_sub_cancel]⟩
    · exact .inr ⟨fun h => a (hg.1 h), b, c⟩
  · have ho : off f n = 0 := by unfold off; rw [if_neg (fun h => h0 h.2)]
    by_cases h2 : 9 < n
    · exact (pi_longp g n cap _ w (hf 0 (by omega)) h0 h2).mono (bad fun h => by have := h.2.1; rw [ho] at this; omega)
    refine (pi_pos g n cap f w hf h0 (by omega) (by omega) hb).mono fun e w' ⟨r, ok, he, ha, hm⟩ => ⟨r, ok, he, ?_, hm⟩
    have hg : Good f n ↔ IsD f 0 n := by
      unfold Good
      rw [ho, Nat.sub_zero]
      exact ⟨fun h => h.2.2, fun h => ⟨by omega, by omega, h⟩⟩
    rcases ha with ⟨a, b, c⟩ | ⟨a, b, c⟩
    · exact .inl ⟨hg.2 a, b, by rw [c]; unfold ansv; rw [ho, if_neg (by omega), Nat.sub_zero]⟩
    · exact .inr ⟨fun h => a (hg.1 h), b, c⟩

set_option maxHeartbeats 400000 in
/-- ZZParseInt -/
theorem zz_any (g n cap : Nat) (f : Nat → Int) (w : World) (hf : ∀ i, i < n → w.cell? ⟨g, i, none⟩ = some (.int .u8 (f i))) (hcap : n ≤ cap) (hb : ∀ i, i < n → 0 ≤ f i ∧ f i ≤ 255) :
    Calls Try.prog 8 #[.slice (some ⟨g, 0, none⟩) n cap] w fun e w' => Out (Good f n) (ansv f n) w e w' := by
  have HF : Hid ((∀ i, i < n → w.cell? ⟨g, i, none⟩ = some (.int .u8 (f i))) ∧ ∀ i, i < n → 0 ≤ f i ∧ f i ≤ 255) := ⟨hf, hb⟩
  clear hf hb
  go_enter Try.func8, Try.ntmps8
  go_wp2_with (go_at_call 13; refine (pi_any g n cap f w HF.out.1 hcap HF.out.2).mono ?_; rintro e w' ⟨r, ok, rfl, ha, m, rfl⟩)
  go_ret2
  exact ⟨r, ok, rfl, ha, m, rfl⟩
set_option maxHeartbeats 400000 in
theorem zz_nil (w : World) :
    Calls Try.prog 8 #[.slice none 0 0] w fun e w' => e = .returned (.tuple #[.int .i64 0, .bool false]) ∧ ∃ m, w' = w.drewN m := by
  go_enter Try.func8, Try.ntmps8
  go_wp2_with (go_at_call 13; refine (pi_empty _ _ _).mono ?_; rintro e w' ⟨rfl, m, rfl⟩)
  go_ret2
  exact ⟨rfl, m, rfl⟩
end Go.Proofs.Qxb6603754a
