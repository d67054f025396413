/- Plain laws: what FnWatchReportsOnceAQuietStretch asks of one run of a watch. No walk. -/
import Derived.Test.Qxb6602616aR1
namespace Go.Proofs.Qxb6602616a
open Go.RowKit Fl

/-- what holds ahead of run number n -/
def InvR (n : Int) (armed s : Bool) (rv rw : Nat) (q : Int) (e : Nat) : Prop :=
  fin rv = true ∧ nn rw = true ∧ 0 ≤ sv rw ∧ fin e = true ∧ 0 ≤ q ∧ q ≤ 1073741824 + n ∧ (armed = false → s = false ∧ rv = 0 ∧ rw = 0 ∧ e = 0)

theorem fin_zero : fin 0 = true := by decide +kernel

theorem stepR {n c : Int} {armed s : Bool} {rv rw : Nat} {q : Int} {e : Nat} {stop s2 : Bool} {rv2 rw2 : Nat} {q2 : Int} {e2 : Nat} (hn : 0 ≤ n) (hn2 : n ≤ 65536) (hc1 : -9223372036854775808 ≤ c) (hc2 : c ≤ 9223372036854775807)
    (hI : InvR n armed s rv rw q e) (h : WR c s rv rw q e stop s2 rv2 rw2 q2 e2) :
    (stop = true ∧ ¬ 0 < c ∧ armed = true ∧ s2 = false ∧ rv2 = 0 ∧ rw2 = 0 ∧ q2 = 0 ∧ e2 = 0 ∧ InvR (n + 1) false false 0 0 0 0) ∨
    (stop = false ∧ s2 = (s || decide (0 < c)) ∧ (0 < c → q2 = 0) ∧ (¬ 0 < c → q2 = q + 1) ∧ InvR (n + 1) (armed || decide (0 < c)) s2 rv2 rw2 q2 e2) := by
  have hI0 := hI
  obtain ⟨i1, i2, i3, i4, i5, i6, i7⟩ := hI
  obtain ⟨f1, f2, f3⟩ := int_fin (n := c) hc1 hc2
  have hp := two_pow_ipos 1074
  have h0 := h
  obtain ⟨rv1, rw1, hR, p, hm, hE⟩ := h
  have hrate : fin rv1 = true ∧ nn rw1 = true ∧ 0 ≤ sv rw1 := by
    rcases hR with ⟨rfl, hM⟩ | ⟨rfl, rfl, rfl⟩
    · have a := ma_weight hM i2 i3
      exact ⟨ma_finite hM i2 i3 f1 f2 f3 i1, a.1, by omega⟩
    · exact ⟨i1, i2, i3⟩
  by_cases hc : 0 < c
  · rw [if_pos hc, if_pos hc] at hE
    rw [if_pos hc, if_pos hc, int_zero] at hm
    have hl : lt20 p = true := lt20_zero (mul_zero_right i4 fin_zero (.inr sv_zero) hm)
    rcases hE with ⟨_, rfl, rfl, rfl, rfl, rfl, rfl⟩ | ⟨h2, _⟩
    · exact .inr ⟨rfl, rfl, fun _ => rfl, fun h => absurd hc h, hrate.1, hrate.2.1, hrate.2.2, i4, by omega, by omega, fun h => by simp [hc] at h⟩
    · rw [hl] at h2; cases h2
  · cases ha : armed
    · obtain ⟨rfl, rfl, rfl, rfl⟩ := i7 ha
      obtain ⟨rfl, rfl, rfl, rfl, rfl, rfl⟩ := stepB hc i5 (by omega) h0
      exact .inr ⟨rfl, by simp [hc], fun h => absurd h hc, fun _ => rfl, fin_zero, nn_zero, by rw [sv_zero]; omega, fin_zero, by omega, by omega, fun _ => ⟨rfl, rfl, rfl, rfl⟩⟩
    · rw [if_neg hc, if_neg hc] at hE
      rcases hE with ⟨_, rfl, rfl, rfl, rfl, rfl, rfl⟩ | ⟨_, rfl, rfl, rfl, rfl, rfl, rfl⟩
      · refine .inr ⟨rfl, rfl, fun h => absurd h hc, fun _ => rfl, hrate.1, hrate.2.1, hrate.2.2, ?_, by omega, by omega, fun h => by simp at h⟩
        split
        · exact i1
        · exact i4
      · exact .inl ⟨rfl, hc, rfl, rfl, rfl, rfl, rfl, rfl, fin_zero, nn_zero, by rw [sv_zero]; omega, fin_zero, by omega, by omega, fun _ => ⟨rfl, rfl, rfl, rfl⟩⟩

end Go.Proofs.Qxb6602616a
