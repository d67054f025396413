/- Plain laws of one run of a watch ('WR'): what FnWatchStops.. and FnWatchReports.. ask of it. No walk. -/
import Derived.Test.Qxb6602616aW4
namespace Go.Proofs.Qxb6602616a
open Go.RowKit Fl

/-! the tests on floats, under names -/
def feq (a b : Nat) : Bool := nn a && nn b && decide (sv a = sv b)
def flt (a b : Nat) : Bool := nn a && nn b && decide (sv a < sv b)
def fgt (a b : Nat) : Bool := nn a && nn b && decide (sv b < sv a)
def fle (a b : Nat) : Bool := nn a && nn b && decide (sv a ≤ sv b)
def fge (a b : Nat) : Bool := nn a && nn b && decide (sv b ≤ sv a)
theorem ord_eq (a b : Nat) : (FloatKind.f64.format.order a b == some Ordering.eq) = feq a b := eq_b a b
theorem ord_ne (a b : Nat) : (FloatKind.f64.format.order a b != some Ordering.eq) = !feq a b := by
  rw [← ord_eq]; rfl
theorem ord_lt (a b : Nat) : (FloatKind.f64.format.order a b == some Ordering.lt) = flt a b := lt_b a b
theorem ord_gt (a b : Nat) : (FloatKind.f64.format.order a b == some Ordering.gt) = fgt a b := gt_b a b
theorem ord_le (a b : Nat) : (flt a b || feq a b) = fle a b := by
  have := le_b a b
  rw [lt_b, eq_b] at this; exact this
theorem ord_ge (a b : Nat) : (fgt a b || feq a b) = fge a b := by
  have := ge_b a b
  rw [gt_b, eq_b] at this; exact this
theorem feq_mk {a b : Nat} (h1 : nn a = true) (h2 : nn b = true) (h : sv a = sv b) : feq a b = true := by simp [feq, h1, h2, h]
theorem fle_mk {a b : Nat} (h1 : nn a = true) (h2 : nn b = true) (h : sv a ≤ sv b) : fle a b = true := by simp [fle, h1, h2, h]
theorem fge_mk {a b : Nat} (h1 : nn a = true) (h2 : nn b = true) (h : sv b ≤ sv a) : fge a b = true := by simp [fge, h1, h2, h]
theorem feq_of {a b : Nat} (h : feq a b = true) : nn a = true ∧ nn b = true ∧ sv a = sv b := by
  simp only [feq, Bool.and_eq_true, decide_eq_true_eq] at h; exact ⟨h.1.1, h.1.2, h.2⟩
theorem fge_of {a b : Nat} (h : fge a b = true) : nn a = true ∧ nn b = true ∧ sv b ≤ sv a := by
  simp only [fge, Bool.and_eq_true, decide_eq_true_eq] at h; exact ⟨h.1.1, h.1.2, h.2⟩
theorem fle_of {a b : Nat} (h : fle a b = true) : nn a = true ∧ nn b = true ∧ sv a ≤ sv b := by
  simp only [fle, Bool.and_eq_true, decide_eq_true_eq] at h; exact ⟨h.1.1, h.1.2, h.2⟩

theorem fin_99 : fin 4607092346807469998 = true := by decide +kernel
theorem sv_99 : 0 < sv 4607092346807469998 ∧ sv 4607092346807469998 ≤ (2 : Int) ^ 1074 := by decide +kernel

/-- the weight behind 'mean.add' by the watch's share -/
theorem ma_weight {v wt x v' wt' : Nat} (h : MA v wt x 4607092346807469998 v' wt') (hw : nn wt = true) (w0 : 0 ≤ sv wt) :
    nn wt' = true ∧ (2 : Int) ^ 1074 ≤ sv wt' ∧ ∀ s, FR .add wt 4607182418800017408 s → nn s = true ∧ sv wt' ≤ sv s := by
  obtain ⟨p, d, q, r1, r2, r3, r4, r5⟩ := h
  exact weight_law fin_99 sv_99.1 sv_99.2 hw w0 r1 r2
theorem ma_falls {v wt x v' wt' : Nat} (h : MA v wt x 4607092346807469998 v' wt') (hw : nn wt = true) (w0 : 0 ≤ sv wt) (hx : fin x = true) (x0 : sv x = 0) (hv : fin v = true) (v0 : 0 ≤ sv v) :
    fin v' = true ∧ 0 ≤ sv v' ∧ sv v' ≤ sv v := by
  obtain ⟨a1, a2, _⟩ := ma_weight h hw w0
  obtain ⟨p, d, q, r1, r2, r3, r4, r5⟩ := h
  obtain ⟨b1, b2, b3⟩ := value_falls hx x0 hv v0 a1 a2 r3 r4 r5
  exact ⟨fin_between (a := 0) b1 (by decide +kernel) hv (by rw [sv_zero]; exact b2) b3, b2, b3⟩
theorem ma_steady {v wt x v' wt' : Nat} (h : MA v wt x 4607092346807469998 v' wt') (hw : nn wt = true) (w0 : 0 ≤ sv wt) (hx : fin x = true) (hv : fin v = true) (e0 : sv x = sv v) : nn v' = true ∧ sv v' = sv v := by
  obtain ⟨a1, a2, _⟩ := ma_weight h hw w0
  obtain ⟨p, d, q, r1, r2, r3, r4, r5⟩ := h
  exact value_steady hx hv e0 a1 a2 r3 r4 r5
theorem ma_finite {v wt x v' wt' : Nat} (h : MA v wt x 4607092346807469998 v' wt') (hw : nn wt = true) (w0 : 0 ≤ sv wt) (hx : fin x = true) (x1 : -((2 : Int) ^ 1137) ≤ sv x) (x2 : sv x ≤ (2 : Int) ^ 1137) (hv : fin v = true) : fin v' = true := by
  obtain ⟨a1, a2, _⟩ := ma_weight h hw w0
  obtain ⟨p, d, q, r1, r2, r3, r4, r5⟩ := h
  exact value_finite hx x1 x2 hv a1 a2 r3 r4 r5

theorem fin_of_feq {a b : Nat} (h : nn a = true) (hb : fin b = true) (e : sv a = sv b) : fin a = true := fin_between h hb hb (by omega) (by omega)

theorem lt20_zero {p : Nat} (h : nn p = true ∧ sv p = 0) : lt20 p = true := by
  have hp := two_pow_ipos 1074
  simp only [lt20, h.1, h.2, sv_20, Bool.true_and, decide_eq_true_eq]; omega

/-- the run with receipts, at a rate that is steady -/
theorem step_first {F : Int} {s : Bool} {rv rw : Nat} {q : Int} {ex : Nat} {stop s2 : Bool} {rv2 rw2 : Nat} {q2 : Int} {e2 : Nat} (hF : 1 ≤ F) (hF2 : F ≤ 9223372036854775807)
    (hrv : nn rv = true) (erv : sv rv = sv (floatOfInt .f64 F)) (hrw : nn rw = true) (rw0 : 0 ≤ sv rw) (hex : fin ex = true) (h : WR F s rv rw q ex stop s2 rv2 rw2 q2 e2) :
    stop = false ∧ s2 = true ∧ q2 = 0 ∧ e2 = ex ∧ nn rv2 = true ∧ sv rv2 = sv rv ∧ nn rw2 = true ∧ 0 ≤ sv rw2 ∧
    (s = true → (2 : Int) ^ 1074 ≤ sv rw2 ∧ ∀ t, FR .add rw 4607182418800017408 t → nn t = true ∧ sv rw2 ≤ sv t) ∧ (s = false → rw2 = rw) := by
  obtain ⟨rv1, rw1, hR, p, hp, hE⟩ := h
  have hF' : 0 < F := by omega
  rw [if_pos hF', if_pos hF'] at hE
  rw [if_pos hF', if_pos hF', int_zero] at hp
  have hl : lt20 p = true := lt20_zero (mul_zero_right hex (by decide +kernel) (.inr sv_zero) hp)
  have hfin := int_fin (n := F) (by omega) hF2
  have frv := fin_of_feq hrv hfin.1 erv
  rcases hE with ⟨_, rfl, rfl, rfl, rfl, rfl, rfl⟩ | ⟨h2, _⟩
  · rcases hR with ⟨rfl, hm⟩ | ⟨rfl, rfl, rfl⟩
    · have a := ma_steady hm hrw rw0 hfin.1 frv erv.symm
      have b := ma_weight hm hrw rw0
      have hp := two_pow_ipos 1074
      exact ⟨rfl, by simp [hF'], rfl, rfl, a.1, a.2, b.1, by omega, fun _ => ⟨b.2.1, b.2.2⟩, fun h => by cases h⟩
    · exact ⟨rfl, by simp [hF'], rfl, rfl, hrv, rfl, hrw, rw0, (fun h => by cases h), fun _ => rfl⟩
  · rw [hl] at h2; cases h2

/-- at which quiet run the watch stops -/
def kOf (F : Int) : Int := if F < 20 then (20 + F - 1) / F else 1
theorem kOf_small {F : Int} (h1 : 1 ≤ F) (h : F < 20) : kOf F = 19 / F + 1 := by
  unfold kOf
  rw [if_pos h, show 20 + F - 1 = 19 + F * 1 from by omega, Int.add_mul_ediv_left _ _ (by omega)]
theorem kOf_lt {F j : Int} (h1 : 1 ≤ F) (h : F < 20) (hj : j < kOf F) : F * j ≤ 19 := by
  rw [kOf_small h1 h] at hj
  have a : j ≤ 19 / F := by omega
  have b : F * j ≤ F * (19 / F) := Int.mul_le_mul_of_nonneg_left a (by omega)
  have c := Int.mul_ediv_self_le (x := 19) (k := F) (by omega)
  omega
theorem kOf_ge {F : Int} (h1 : 1 ≤ F) (h : F < 20) : 20 ≤ F * kOf F := by
  rw [kOf_small h1 h, Int.mul_add]
  have a := Int.mul_ediv_add_emod 19 F
  have b := Int.emod_lt_of_pos 19 (show 0 < F by omega)
  omega
theorem kOf_pos {F : Int} (h1 : 1 ≤ F) : 1 ≤ kOf F ∧ kOf F ≤ 20 := by
  by_cases h : F < 20
  · rw [kOf_small h1 h]
    have a : 0 ≤ 19 / F := Int.ediv_nonneg (by omega) (by omega)
    have b : 19 / F ≤ 19 := Int.ediv_le_self _ (by omega)
    omega
  · unfold kOf; rw [if_neg h]; omega

/-- what holds ahead of quiet run j, no stop having come -/
def InvA (F j : Int) (s : Bool) (rv rw : Nat) (q : Int) (e : Nat) : Prop :=
  s = true ∧ fin rv = true ∧ 0 ≤ sv rv ∧ nn rw = true ∧ 0 ≤ sv rw ∧ q = j - 1 ∧ (j = 1 → sv rv = sv (floatOfInt .f64 F)) ∧ (j ≠ 1 → nn e = true ∧ sv e = sv (floatOfInt .f64 F))
/-- and behind the stop -/
def InvB (k j : Int) (s : Bool) (rv rw : Nat) (q : Int) (e : Nat) : Prop := s = false ∧ rv = 0 ∧ rw = 0 ∧ q = j - 1 - k ∧ e = 0

theorem exp_of {F j : Int} {s : Bool} {rv rw : Nat} {q : Int} {e : Nat} (hF : 1 ≤ F) (hF2 : F ≤ 9223372036854775807) (h : InvA F j s rv rw q e) :
    fin (if q = 0 then rv else e) = true ∧ sv (if q = 0 then rv else e) = sv (floatOfInt .f64 F) := by
  obtain ⟨_, h1, _, _, _, h2, h3, h4⟩ := h
  have hfin := int_fin (n := F) (by omega) hF2
  by_cases hj : j = 1
  · rw [if_pos (by omega)]; exact ⟨h1, h3 hj⟩
  · rw [if_neg (by omega)]
    have := h4 hj
    exact ⟨fin_of_feq this.1 hfin.1 this.2, this.2⟩

theorem zero_not : ¬ (0 : Int) < 0 := by omega

theorem stepA_lt {F j : Int} {s : Bool} {rv rw : Nat} {q : Int} {e : Nat} {stop s2 : Bool} {rv2 rw2 : Nat} {q2 : Int} {e2 : Nat} (hF : 1 ≤ F) (hF2 : F ≤ 9223372036854775807) (hj : 1 ≤ j) (hk : j < kOf F)
    (hI : InvA F j s rv rw q e) (h : WR 0 s rv rw q e stop s2 rv2 rw2 q2 e2) :
    stop = false ∧ s2 = true ∧ q2 = j ∧ nn e2 = true ∧ sv e2 = sv (floatOfInt .f64 F) ∧ nn rv2 = true ∧ 0 ≤ sv rv2 ∧ sv rv2 ≤ sv rv ∧ nn rw2 = true ∧ (2 : Int) ^ 1074 ≤ sv rw2 ∧
    (∀ t, FR .add rw 4607182418800017408 t → nn t = true ∧ sv rw2 ≤ sv t) ∧ InvA F (j + 1) s2 rv2 rw2 q2 e2 := by
  obtain ⟨rv1, rw1, hR, p, hp, hE⟩ := h
  have hkp := kOf_pos hF
  have hF20 : F < 20 := by
    by_cases h : F < 20
    · exact h
    · unfold kOf at hk; rw [if_neg h] at hk; omega
  have hx := exp_of hF hF2 hI
  obtain ⟨rfl, i1, i2, i3, i4, i5, i6, i7⟩ := hI
  rw [if_neg zero_not, if_neg zero_not] at hE
  rw [if_neg zero_not, if_neg zero_not] at hp
  have hq1 : q + 1 = j := by omega
  rw [hq1] at hp hE
  have hl : lt20 p = true := by
    have := mul_lt20 (F := F) (j := j) hx.1 (int_fin (n := j) (by omega) (by omega)).1 (by rw [hx.2]; exact int_small (by omega) (by omega)) (int_small (by omega) (by omega)) (kOf_lt hF hF20 hk) hp
    simp [lt20, this.1, this.2]
  have hm : MA rv rw (floatOfInt .f64 0) 4607092346807469998 rv1 rw1 := by
    rcases hR with ⟨_, h⟩ | ⟨h, _⟩
    · exact h
    · cases h
  rw [int_zero] at hm
  have a := ma_falls hm i3 i4 (by decide +kernel) sv_zero i1 i2
  have b := ma_weight hm i3 i4
  have hp := two_pow_ipos 1074
  rcases hE with ⟨_, rfl, rfl, rfl, rfl, rfl, rfl⟩ | ⟨h2, _⟩
  · exact ⟨rfl, by simp, by omega, fin_nn hx.1, hx.2, fin_nn a.1, a.2.1, a.2.2, b.1, b.2.1, b.2.2, by simp, a.1, a.2.1, b.1, by omega, by omega, fun h => by omega, fun _ => ⟨fin_nn hx.1, hx.2⟩⟩
  · rw [hl] at h2; cases h2

theorem stepA_eq {F j : Int} {s : Bool} {rv rw : Nat} {q : Int} {e : Nat} {stop s2 : Bool} {rv2 rw2 : Nat} {q2 : Int} {e2 : Nat} (hF : 1 ≤ F) (hF2 : F ≤ 9223372036854775807) (hk : j = kOf F)
    (hI : InvA F j s rv rw q e) (h : WR 0 s rv rw q e stop s2 rv2 rw2 q2 e2) : stop = true ∧ s2 = false ∧ rv2 = 0 ∧ rw2 = 0 ∧ q2 = 0 ∧ e2 = 0 := by
  obtain ⟨rv1, rw1, hR, p, hp, hE⟩ := h
  have hkp := kOf_pos hF
  have hx := exp_of hF hF2 hI
  obtain ⟨rfl, i1, i2, i3, i4, i5, i6, i7⟩ := hI
  rw [if_neg zero_not, if_neg zero_not] at hE
  rw [if_neg zero_not, if_neg zero_not] at hp
  have hq1 : q + 1 = j := by omega
  rw [hq1] at hp hE
  have p0 := two_pow_ipos 1074
  have hl : lt20 p = false := by
    have := mul_ge20 hx.1 (int_fin (n := j) (by omega) (by omega)).1 (by
      rw [hx.2, int_small (n := j) (by omega) (by omega)]
      by_cases hF20 : F < 20
      · rw [int_small (n := F) (by omega) (by omega), ac4, hk]
        exact Int.mul_le_mul_of_nonneg_right (Int.mul_le_mul_of_nonneg_right (kOf_ge hF hF20) (by omega)) (by omega)
      · have hj1 : j = 1 := by rw [hk]; unfold kOf; rw [if_neg hF20]
        rw [hj1, Int.one_mul]
        refine Int.mul_le_mul_of_nonneg_right ?_ (by omega)
        have := rnd0_ge (int_rn F).1 nn_20 (by rw [sv_20]; exact Int.mul_le_mul_of_nonneg_right (by omega) (by omega))
        rw [sv_20] at this; exact this) hp
    have h3 : ¬ sv p < sv 4626322717216342016 := by omega
    simp [lt20, h3]
  rcases hE with ⟨h2, _⟩ | ⟨_, rfl, rfl, rfl, rfl, rfl, rfl⟩
  · rw [hl] at h2; cases h2
  · exact ⟨rfl, rfl, rfl, rfl, rfl, rfl⟩

/-- a watch that is wholly zero but for its quiet runs: a run with no receipts does not report -/
theorem stepB {c : Int} {q : Int} {stop s2 : Bool} {rv2 rw2 : Nat} {q2 : Int} {e2 : Nat} (hc : ¬ 0 < c) (h0 : 0 ≤ q) (h1 : q ≤ 4611686018427387904) (h : WR c false 0 0 q 0 stop s2 rv2 rw2 q2 e2) :
    stop = false ∧ s2 = false ∧ rv2 = 0 ∧ rw2 = 0 ∧ q2 = q + 1 ∧ e2 = 0 := by
  obtain ⟨rv1, rw1, hR, p, hp, hE⟩ := h
  rw [if_neg hc, if_neg hc] at hE
  rw [if_neg hc, if_neg hc] at hp
  have he : (if q = 0 then (0 : Nat) else 0) = 0 := by split <;> rfl
  rw [he] at hp hE
  have hl : lt20 p = true := lt20_zero (mul_zero_right (by decide +kernel) (int_fin (n := q + 1) (by omega) (by omega)).1 (.inl sv_zero) hp)
  rcases hE with ⟨_, rfl, rfl, rfl, rfl, rfl, rfl⟩ | ⟨h2, _⟩
  · rcases hR with ⟨h, _⟩ | ⟨_, rfl, rfl⟩
    · cases h
    · exact ⟨rfl, by simp [hc], rfl, rfl, rfl, rfl⟩
  · rw [hl] at h2; cases h2

end Go.Proofs.Qxb6602616a
