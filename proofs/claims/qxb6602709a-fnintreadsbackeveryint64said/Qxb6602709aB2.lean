import Derived.Test.Qxb6602709aB1
namespace Go.Proofs.Qxb6602709a
open Go.RowKit

theorem dec_any (m : Nat) (hm : m < 18446744073709551616) (w : World) :
    Calls Try.prog 11 #[.int .u64 m] w fun e w' => ∃ t g, e = .returned (.slice (some ⟨g, 0, none⟩) t t) ∧ 1 ≤ t ∧ t ≤ 20 ∧ m < 10 ^ t ∧ (t = 1 ∨ 10 ^ (t - 1) ≤ m) ∧ RowB w' g t (fun j => dgt m (t - 1 - j)) ∧ w.heap.size ≤ g ∧ g < w'.heap.size ∧ Below w.heap.size w w' := by
  by_cases h0 : m = 0
  · subst h0
    refine (dec_zero w).mono fun e w' ⟨h1, h2⟩ => ?_
    subst h2
    refine ⟨1, w.heap.size, h1, by omega, by omega, by omega, .inl rfl, ⟨fun i hi => ?_, fun i => World.frozen?_alloc_new w _ _ i⟩, Nat.le_refl _, by simp, (Below.refl _ _).alloc (Nat.le_refl _) _⟩
    obtain rfl : i = 0 := by omega
    rw [World.cell?_alloc_new]; rfl
  · exact dec_pos m (by omega) hm w

theorem dgt_bd (m t : Nat) : 48 ≤ dgt m t ∧ dgt m t ≤ 57 := by unfold dgt; omega

set_option maxHeartbeats 400000 in
theorem zzval7 (v : Value) (w : World) (h : v.oneCell' = true) (g n cap : Nat) (hv : v = .slice (some ⟨g, 0, none⟩) n cap) :
    Calls Try.prog 7 #[v] w fun e w' => e = .returned (.agg #[v]) ∧ Below w.heap.size w w' := by
  subst hv
  go_enter Try.func7, Try.ntmps7
  go_wp2
  exact bodyPost_ret (v := .agg #[.slice (some ⟨g, 0, none⟩) n cap]) (by simp [results, Try.results7, go_sem]) rfl ⟨rfl, (Below.refl _ _).alloc (Nat.le_refl _) _⟩

set_option maxHeartbeats 400000 in
theorem kind12_i (g n cap : Nat) (w : World) (hn : 0 < n) (hg : g < w.heap.size) (hc : w.cell? ⟨g, 0, none⟩ = some (.int .u8 105)) :
    Calls Try.prog 12 #[.agg #[.slice (some ⟨g, 0, none⟩) n cap]] w fun e w' => e = .returned (.int .u8 2) ∧ Below w.heap.size w w' := by
  have hn0 : ((n : Int) == 0) = false := beq_eq_false_iff_ne.2 (by omega)
  have hn1 : (0 : Int) < (n : Int) := by omega
  go_enter Try.func12, Try.ntmps12
  go_wp2
  go_ret
  exact ⟨rfl, (Below.refl _ _).alloc (Nat.le_refl _) _⟩

theorem digit_step {m T k p : Nat} (hk : k < T) (hp : p = m / 10 ^ (T - k)) : 10 * p + m / 10 ^ (T - 1 - k) % 10 = m / 10 ^ (T - (k + 1)) := by
  have e : T - k = (T - 1 - k) + 1 := by omega
  rw [hp, e, Nat.pow_succ, ← Nat.div_div_eq_div_mul, show T - (k + 1) = T - 1 - k from by omega]
  omega
theorem tdiv_ge {p D : Nat} (h : 10 * p + D ≤ 9223372036854775808) (hD : D ≤ 9) : ¬ (-(p : Int)) < (-9223372036854775808 + (D : Int)).tdiv 10 := by
  rw [show (-9223372036854775808 + (D : Int)) = -(9223372036854775808 - (D : Int)) from by omega, Int.neg_tdiv, Int.tdiv_eq_ediv_of_nonneg (by omega)]
  omega

theorem rowB_alloc {w : World} {b n : Nat} {f : Nat → Int} (h : RowB w b n f) (hl : b < w.heap.size) (o : Obj) : RowB (w.alloc o) b n f :=
  rowB_below h ((Below.refl _ _).alloc (Nat.le_refl _) _) hl

set_option maxHeartbeats 1000000 in
theorem int8_neg (m T g cap : Nat) (R : Nat → Int) (w : World) (hT : 1 ≤ T) (hT2 : T ≤ 20) (hm : m < 10 ^ T) (hm2 : m ≤ 9223372036854775808) (hg : g < w.heap.size) (hR : RowB w g (T + 3) R) (hcap : T + 3 ≤ cap)
    (h0 : R 0 = 105) (h1 : R 1 = 45) (hd : ∀ k, k < T → R (2 + k) = dgt m (T - 1 - k)) :
    Calls Try.prog 8 #[.agg #[.slice (some ⟨g, 0, none⟩) (T + 3) cap]] w fun e w' => e = .returned (.tuple #[.int .i64 (-(m : Int)), .bool true]) ∧ Below w.heap.size w w' := by
  have hRa := rowB_alloc hR hg (.cells #[.slice (some ⟨g, 0, none⟩) (T + 3) cap] 26)
  have c0 : (w.alloc (.cells #[.slice (some ⟨g, 0, none⟩) (T + 3) cap] 26)).cell? ⟨g, 0, none⟩ = some (.int .u8 105) := by rw [hRa.1 0 (by omega), h0]
  have HC0 : Hid (_ = some (Value.int .u8 105)) := c0
  have HRa : Hid (RowB _ g (T + 3) R ∧ R 1 = 45 ∧ (∀ k, k < T → R (2 + k) = dgt m (T - 1 - k)) ∧ m < 10 ^ T) := ⟨hRa, h1, hd, hm⟩
  clear hR h0 h1 hd hm hRa c0
  go_enter Try.func8, Try.ntmps8
  go_wp2_with fail
  refine (kind12_i g (T + 3) cap _ (by omega) (by simp; omega) HC0.out).mono ?_
  rintro e w1 ⟨rfl, hb⟩
  have hB1 : Below w.heap.size w w1 := ((Below.refl _ _).alloc (Nat.le_refl _) _).trans (hb.mono (by simp))
  have k1 : w1.cell? ⟨w.heap.size, 0, none⟩ = some (.slice (some ⟨g, 0, none⟩) (T + 3) cap) := by
    rw [hb.cell (p := ⟨w.heap.size, 0, none⟩) (by simp), World.cell?_alloc_new]; rfl
  have hR1 := rowB_below HRa.out.1 hb (by simp; omega)
  have c1 : w1.cell? ⟨g, 1, none⟩ = some (.int .u8 45) := by rw [hR1.1 1 (by omega), HRa.out.2.1]
  have HR : Hid (RowB w1 g (T + 3) R ∧ (∀ k, k < T → R (2 + k) = dgt m (T - 1 - k)) ∧ m < 10 ^ T) := ⟨hR1, HRa.out.2.2⟩
  clear HC0 HRa hb hR1
  have hc1 : ¬ cap = 1 := by omega
  have hc2 : ¬ cap = 2 := by omega
  go_wp2_with fail
  go_loop [6, 29] (fun nv iv => ∃ k p : Nat, k ≤ T ∧ iv = .int .i64 k ∧ nv = .int .i64 (-(p : Int)) ∧ Hid (p = m / 10 ^ (T - k))) (fun _ iv => T - (intOf iv).toNat)
  case atStart => exact ⟨0, 0, by omega, rfl, rfl, (by rw [Nat.sub_zero, Nat.div_eq_of_lt HR.out.2.2] : (0 : Nat) = m / 10 ^ (T - 0))⟩
  case round =>
    obtain ⟨k, p, hk, rfl, rfl, hp⟩ := hrel
    by_cases hlt : k < T
    · obtain ⟨c, D, hcell, hcd, hD, hbd, N⟩ : ∃ (c : Int) (D : Nat), w1.cell? ⟨g, 2 + k, none⟩ = some (.int .u8 c) ∧ c = 48 + (D : Int) ∧ D ≤ 9 ∧ 10 * p + D ≤ 9223372036854775808 ∧ Hid (10 * p + D = m / 10 ^ (T - (k + 1))) := by
        have hst := digit_step hlt hp.out
        have hle : m / 10 ^ (T - (k + 1)) ≤ m := Nat.div_le_self _ _
        exact ⟨dgt m (T - 1 - k), m / 10 ^ (T - 1 - k) % 10, by rw [HR.out.1.1 (2 + k) (by omega), HR.out.2.1 k hlt], rfl, by omega, by omega, hst⟩
      have htd : ¬ (-(p : Int)) < (-9223372036854775808 + (c - 48)).tdiv 10 := by
        rw [hcd, show 48 + (D : Int) - 48 = (D : Int) from by omega]; exact tdiv_ge hbd hD
      have hc48 : 48 ≤ c ∧ c ≤ 57 := by omega
      have hq1 : -9223372036854775808 ≤ 10 * -(p : Int) - (c - 48) := by omega
      have HCD : Hid (c = 48 + (D : Int)) := hcd
      clear hcd hp
      go_wp2_with fail
      go_round
      case rel => exact ⟨k + 1, 10 * p + D, by omega, by go_num, by have := HCD.out; go_num, N⟩
      case measure => simp [intOf]; omega
    · have hpm : p = m := by
        have := hp.out
        rw [show T - k = 0 from by omega] at this
        simpa using this
      subst hpm
      go_wp2_with fail
      go_ret2
      exact ⟨rfl, hB1⟩
end Go.Proofs.Qxb6602709a
