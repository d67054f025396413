import Derived.Test.Qxb6602616aW2
namespace Go.Proofs.Qxb6602616a
open Go.RowKit Fl
attribute [local go_sem] run_fadd run_fsub run_fmul run_fquo run_store_float setCell_drewN alloc_drewN

set_option maxHeartbeats 2000000 in
theorem run17_z_t (b : Nat) (c : Int) (rv rw : Nat) (ex : Nat) (w : World) (hc : ¬ 0 < c) (H : Cells6 w b c true rv rw 0 ex) (f0 : ∀ i, w.frozen? ⟨b, i, none⟩ = false) :
    Calls Try.prog 17 #[.pointer (some ⟨b, 0, none⟩)] w fun e w' => ∃ stop s2 rv2 rw2 q2 e2 rv1 rw1, RT c true rv rw rv1 rw1 ∧ WE true rv1 rw1 1 rv stop s2 rv2 rw2 q2 e2 ∧ e = .returned (.bool stop) ∧ Cells6 w' b 0 s2 rv2 rw2 q2 e2 ∧ Below b w w' := by
  have HH := H
  obtain ⟨h0, h1, h2, h3, h4, h5⟩ := H
  go_enter Try.func17, Try.ntmps17
  go_wp2_with fail
  go_region_with (go_at_call 20; go_loud (refine (add20 b 2 rv rw _ _ _ (by go_simp) (by go_simp) (by go_simp) (by go_simp)).mono ?_); rintro e w' ⟨rfl, p, wt', d, q', v', n, r1, r2, r3, r4, r5, rfl⟩)
  all_goals go_wp2_with fail
  go_region
  all_goals go_wp2_with fail
  all_goals
    rename_i hlt
    rw [lt20_eq] at hlt
    go_ret
  · exact ⟨false, true, v', wt', 1, rv, v', wt', .inl ⟨rfl, p, d, q', r1, r2, r3, r4, r5⟩, ⟨_, fq_FR _ _ _ _, .inl ⟨hlt, rfl, rfl, rfl, rfl, rfl, rfl⟩⟩, rfl,
      c6_drewN (c6_set0 (c6_set1 (c6_set2 (c6_set3 (c6_set4 (c6_set5 HH)))))), bdrewN (bset (bset (bset (bset (bset (bset (Below.refl _ _)))))))⟩
  · exact ⟨true, false, 0, 0, 0, 0, v', wt', .inl ⟨rfl, p, d, q', r1, r2, r3, r4, r5⟩, ⟨_, fq_FR _ _ _ _, .inr ⟨hlt, rfl, rfl, rfl, rfl, rfl, rfl⟩⟩, rfl,
      c6_drewN (c6_zero (c6_set0 (c6_set1 (c6_set2 (c6_set3 (c6_set4 (c6_set5 HH))))))), bdrewN (b_zero (bset (bset (bset (bset (bset (bset (Below.refl _ _))))))))⟩

set_option maxHeartbeats 2000000 in
theorem run17_z_f (b : Nat) (c : Int) (rv rw : Nat) (ex : Nat) (w : World) (hc : ¬ 0 < c) (H : Cells6 w b c false rv rw 0 ex) (f0 : ∀ i, w.frozen? ⟨b, i, none⟩ = false) :
    Calls Try.prog 17 #[.pointer (some ⟨b, 0, none⟩)] w fun e w' => ∃ stop s2 rv2 rw2 q2 e2 rv1 rw1, RT c false rv rw rv1 rw1 ∧ WE false rv1 rw1 1 rv stop s2 rv2 rw2 q2 e2 ∧ e = .returned (.bool stop) ∧ Cells6 w' b 0 s2 rv2 rw2 q2 e2 ∧ Below b w w' := by
  have HH := H
  obtain ⟨h0, h1, h2, h3, h4, h5⟩ := H
  have hcd : decide (0 < c) = false := by simpa using hc
  go_enter Try.func17, Try.ntmps17
  go_wp2_with fail
  go_region
  all_goals go_wp2_with fail
  all_goals
    rename_i hlt
    rw [lt20_eq] at hlt
    go_ret
  · exact ⟨false, false, rv, rw, 1, rv, rv, rw, .inr ⟨rfl, rfl, rfl⟩, ⟨_, fq_FR _ _ _ _, .inl ⟨hlt, rfl, rfl, rfl, rfl, rfl, rfl⟩⟩, rfl,
      c6_drewN (c6_set0 (c6_set1 (c6_set4 (c6_set5 HH)))), bdrewN (bset (bset (bset (bset (Below.refl _ _)))))⟩
  · exact ⟨true, false, 0, 0, 0, 0, rv, rw, .inr ⟨rfl, rfl, rfl⟩, ⟨_, fq_FR _ _ _ _, .inr ⟨hlt, rfl, rfl, rfl, rfl, rfl, rfl⟩⟩, rfl,
      c6_drewN (c6_zero (c6_set0 (c6_set1 (c6_set4 (c6_set5 HH))))), bdrewN (b_zero (bset (bset (bset (bset (Below.refl _ _))))))⟩

set_option maxHeartbeats 2000000 in
theorem run17_n_t (b : Nat) (c : Int) (rv rw : Nat) (q : Int) (ex : Nat) (w : World) (hc : ¬ 0 < c) (hq : 0 < q) (hq2 : q ≤ 4611686018427387904) (H : Cells6 w b c true rv rw q ex) (f0 : ∀ i, w.frozen? ⟨b, i, none⟩ = false) :
    Calls Try.prog 17 #[.pointer (some ⟨b, 0, none⟩)] w fun e w' => ∃ stop s2 rv2 rw2 q2 e2 rv1 rw1, RT c true rv rw rv1 rw1 ∧ WE true rv1 rw1 (q + 1) ex stop s2 rv2 rw2 q2 e2 ∧ e = .returned (.bool stop) ∧ Cells6 w' b 0 s2 rv2 rw2 q2 e2 ∧ Below b w w' := by
  have HH := H
  obtain ⟨h0, h1, h2, h3, h4, h5⟩ := H
  have hq0 : (q == 0) = false := beq_eq_false_iff_ne.2 (by omega)
  go_enter Try.func17, Try.ntmps17
  go_wp2_with fail
  go_region_with (go_at_call 20; go_loud (refine (add20 b 2 rv rw _ _ _ (by go_simp) (by go_simp) (by go_simp) (by go_simp)).mono ?_); rintro e w' ⟨rfl, p, wt', d, q', v', n, r1, r2, r3, r4, r5, rfl⟩)
  all_goals go_wp2_with fail
  go_region
  all_goals go_wp2_with fail
  all_goals
    rename_i hlt
    rw [lt20_eq] at hlt
    go_ret
  · exact ⟨false, true, v', wt', q + 1, ex, v', wt', .inl ⟨rfl, p, d, q', r1, r2, r3, r4, r5⟩, ⟨_, fq_FR _ _ _ _, .inl ⟨hlt, rfl, rfl, rfl, rfl, rfl, rfl⟩⟩, rfl,
      c6_drewN (c6_set0 (c6_set1 (c6_set2 (c6_set3 (c6_set4 HH))))), bdrewN (bset (bset (bset (bset (bset (Below.refl _ _))))))⟩
  · exact ⟨true, false, 0, 0, 0, 0, v', wt', .inl ⟨rfl, p, d, q', r1, r2, r3, r4, r5⟩, ⟨_, fq_FR _ _ _ _, .inr ⟨hlt, rfl, rfl, rfl, rfl, rfl, rfl⟩⟩, rfl,
      c6_drewN (c6_zero (c6_set0 (c6_set1 (c6_set2 (c6_set3 (c6_set4 HH)))))), bdrewN (b_zero (bset (bset (bset (bset (bset (Below.refl _ _)))))))⟩

set_option maxHeartbeats 2000000 in
theorem run17_n_f (b : Nat) (c : Int) (rv rw : Nat) (q : Int) (ex : Nat) (w : World) (hc : ¬ 0 < c) (hq : 0 < q) (hq2 : q ≤ 4611686018427387904) (H : Cells6 w b c false rv rw q ex) (f0 : ∀ i, w.frozen? ⟨b, i, none⟩ = false) :
    Calls Try.prog 17 #[.pointer (some ⟨b, 0, none⟩)] w fun e w' => ∃ stop s2 rv2 rw2 q2 e2 rv1 rw1, RT c false rv rw rv1 rw1 ∧ WE false rv1 rw1 (q + 1) ex stop s2 rv2 rw2 q2 e2 ∧ e = .returned (.bool stop) ∧ Cells6 w' b 0 s2 rv2 rw2 q2 e2 ∧ Below b w w' := by
  have HH := H
  obtain ⟨h0, h1, h2, h3, h4, h5⟩ := H
  have hq0 : (q == 0) = false := beq_eq_false_iff_ne.2 (by omega)
  have hcd : decide (0 < c) = false := by simpa using hc
  go_enter Try.func17, Try.ntmps17
  go_wp2_with fail
  go_region
  all_goals go_wp2_with fail
  all_goals
    rename_i hlt
    rw [lt20_eq] at hlt
    go_ret
  · exact ⟨false, false, rv, rw, q + 1, ex, rv, rw, .inr ⟨rfl, rfl, rfl⟩, ⟨_, fq_FR _ _ _ _, .inl ⟨hlt, rfl, rfl, rfl, rfl, rfl, rfl⟩⟩, rfl,
      c6_drewN (c6_set0 (c6_set1 (c6_set4 HH))), bdrewN (bset (bset (bset (Below.refl _ _))))⟩
  · exact ⟨true, false, 0, 0, 0, 0, rv, rw, .inr ⟨rfl, rfl, rfl⟩, ⟨_, fq_FR _ _ _ _, .inr ⟨hlt, rfl, rfl, rfl, rfl, rfl, rfl⟩⟩, rfl,
      c6_drewN (c6_zero (c6_set0 (c6_set1 (c6_set4 HH)))), bdrewN (b_zero (bset (bset (bset (Below.refl _ _)))))⟩

/-- 'watch.run', whole: q1, e1: the quiet runs and the expectation behind its head -/
theorem run17 (b : Nat) (c : Int) (s : Bool) (rv rw : Nat) (q : Int) (ex : Nat) (w : World) (hq : 0 < c ∨ 0 ≤ q ∧ q ≤ 4611686018427387904) (H : Cells6 w b c s rv rw q ex) (f0 : ∀ i, w.frozen? ⟨b, i, none⟩ = false) :
    Calls Try.prog 17 #[.pointer (some ⟨b, 0, none⟩)] w fun e w' => ∃ stop s2 rv2 rw2 q2 e2 rv1 rw1, RT c s rv rw rv1 rw1 ∧
      WE (s || decide (0 < c)) rv1 rw1 (if 0 < c then 0 else q + 1) (if 0 < c then ex else if q = 0 then rv else ex) stop s2 rv2 rw2 q2 e2 ∧ e = .returned (.bool stop) ∧ Cells6 w' b 0 s2 rv2 rw2 q2 e2 ∧ Below b w w' := by
  by_cases hc : 0 < c
  · rw [if_pos hc, if_pos hc, decide_eq_true hc, Bool.or_true]
    cases s
    · exact run17_pos_f b c rv rw q ex w hc H f0
    · exact run17_pos_t b c rv rw q ex w hc H f0
  · rw [if_neg hc, if_neg hc, decide_eq_false hc, Bool.or_false]
    by_cases h0 : q = 0
    · subst h0
      rw [if_pos rfl]
      cases s
      · exact run17_z_f b c rv rw ex w hc H f0
      · exact run17_z_t b c rv rw ex w hc H f0
    · rw [if_neg h0]
      cases s
      · exact run17_n_f b c rv rw q ex w hc (by omega) (by omega) H f0
      · exact run17_n_t b c rv rw q ex w hc (by omega) (by omega) H f0
end Go.Proofs.Qxb6602616a
