import Derived.Test.Qxb6602616aW1
import Derived.Deep.QuietTactic
import Derived.BigQuiet
import Derived.Deep.RegionWith
import Derived.Deep.WholeRow
import Derived.WalkSmall
namespace Go.Proofs.Qxb6602616a
open Go.RowKit Fl
attribute [local go_sem] run_fadd run_fsub run_fmul run_fquo run_store_float setCell_drewN alloc_drewN

/-- what 'mean.add' makes of a mean: the value v and the weight wt become v', wt' -/
def MA (v wt x kp v' wt' : Nat) : Prop := ∃ p d q, FR .mul kp wt p ∧ FR .add p 4607182418800017408 wt' ∧ FR .sub x v d ∧ FR .quo d wt' q ∧ FR .add v q v'

/-- the six cells of a watch -/
def Cells6 (w : World) (b : Nat) (c : Int) (s : Bool) (rv rw : Nat) (q : Int) (ex : Nat) : Prop :=
  w.cell? ⟨b, 0, none⟩ = some (.int .i64 c) ∧ w.cell? ⟨b, 1, none⟩ = some (.bool s) ∧ w.cell? ⟨b, 2, none⟩ = some (.float .f64 rv) ∧ w.cell? ⟨b, 3, none⟩ = some (.float .f64 rw) ∧
  w.cell? ⟨b, 4, none⟩ = some (.int .i64 q) ∧ w.cell? ⟨b, 5, none⟩ = some (.float .f64 ex)

theorem cset_same {w : World} {b i : Nat} {v v' : Value} (h : w.cell? ⟨b, i, none⟩ = some v) : (w.setCell ⟨b, i, none⟩ v').cell? ⟨b, i, none⟩ = some v' := by go_simp
theorem cset_other {w : World} {b i j : Nat} {v' : Value} (h : i ≠ j) : (w.setCell ⟨b, i, none⟩ v').cell? ⟨b, j, none⟩ = w.cell? ⟨b, j, none⟩ := by
  have : (⟨b, i, none⟩ : Addr) ≠ ⟨b, j, none⟩ := by intro e; cases e; exact h rfl
  go_simp
theorem c6_drewN {w : World} {b : Nat} {c : Int} {s : Bool} {rv rw : Nat} {q : Int} {ex n : Nat} (h : Cells6 w b c s rv rw q ex) : Cells6 (w.drewN n) b c s rv rw q ex := h
theorem c6_set0 {w : World} {b : Nat} {c c' : Int} {s : Bool} {rv rw : Nat} {q : Int} {ex : Nat} (h : Cells6 w b c s rv rw q ex) : Cells6 (w.setCell ⟨b, 0, none⟩ (.int .i64 c')) b c' s rv rw q ex := by
  obtain ⟨h0, h1, h2, h3, h4, h5⟩ := h
  exact ⟨cset_same h0, by rw [cset_other (by decide)]; exact h1, by rw [cset_other (by decide)]; exact h2, by rw [cset_other (by decide)]; exact h3, by rw [cset_other (by decide)]; exact h4, by rw [cset_other (by decide)]; exact h5⟩
theorem c6_set1 {w : World} {b : Nat} {c : Int} {s s' : Bool} {rv rw : Nat} {q : Int} {ex : Nat} (h : Cells6 w b c s rv rw q ex) : Cells6 (w.setCell ⟨b, 1, none⟩ (.bool s')) b c s' rv rw q ex := by
  obtain ⟨h0, h1, h2, h3, h4, h5⟩ := h
  exact ⟨by rw [cset_other (by decide)]; exact h0, cset_same h1, by rw [cset_other (by decide)]; exact h2, by rw [cset_other (by decide)]; exact h3, by rw [cset_other (by decide)]; exact h4, by rw [cset_other (by decide)]; exact h5⟩
theorem c6_set2 {w : World} {b : Nat} {c : Int} {s : Bool} {rv rv' rw : Nat} {q : Int} {ex : Nat} (h : Cells6 w b c s rv rw q ex) : Cells6 (w.setCell ⟨b, 2, none⟩ (.float .f64 rv')) b c s rv' rw q ex := by
  obtain ⟨h0, h1, h2, h3, h4, h5⟩ := h
  exact ⟨by rw [cset_other (by decide)]; exact h0, by rw [cset_other (by decide)]; exact h1, cset_same h2, by rw [cset_other (by decide)]; exact h3, by rw [cset_other (by decide)]; exact h4, by rw [cset_other (by decide)]; exact h5⟩
theorem c6_set3 {w : World} {b : Nat} {c : Int} {s : Bool} {rv rw rw' : Nat} {q : Int} {ex : Nat} (h : Cells6 w b c s rv rw q ex) : Cells6 (w.setCell ⟨b, 3, none⟩ (.float .f64 rw')) b c s rv rw' q ex := by
  obtain ⟨h0, h1, h2, h3, h4, h5⟩ := h
  exact ⟨by rw [cset_other (by decide)]; exact h0, by rw [cset_other (by decide)]; exact h1, by rw [cset_other (by decide)]; exact h2, cset_same h3, by rw [cset_other (by decide)]; exact h4, by rw [cset_other (by decide)]; exact h5⟩
theorem c6_set4 {w : World} {b : Nat} {c : Int} {s : Bool} {rv rw : Nat} {q q' : Int} {ex : Nat} (h : Cells6 w b c s rv rw q ex) : Cells6 (w.setCell ⟨b, 4, none⟩ (.int .i64 q')) b c s rv rw q' ex := by
  obtain ⟨h0, h1, h2, h3, h4, h5⟩ := h
  exact ⟨by rw [cset_other (by decide)]; exact h0, by rw [cset_other (by decide)]; exact h1, by rw [cset_other (by decide)]; exact h2, by rw [cset_other (by decide)]; exact h3, cset_same h4, by rw [cset_other (by decide)]; exact h5⟩
theorem c6_set5 {w : World} {b : Nat} {c : Int} {s : Bool} {rv rw : Nat} {q : Int} {ex ex' : Nat} (h : Cells6 w b c s rv rw q ex) : Cells6 (w.setCell ⟨b, 5, none⟩ (.float .f64 ex')) b c s rv rw q ex' := by
  obtain ⟨h0, h1, h2, h3, h4, h5⟩ := h
  exact ⟨by rw [cset_other (by decide)]; exact h0, by rw [cset_other (by decide)]; exact h1, by rw [cset_other (by decide)]; exact h2, by rw [cset_other (by decide)]; exact h3, by rw [cset_other (by decide)]; exact h4, cset_same h5⟩
theorem bset {a w : World} {b i : Nat} {v : Value} (h : Below b a w) : Below b a (w.setCell ⟨b, i, none⟩ v) := h.setCell (Nat.le_refl b) v
theorem bdrewN {a w : World} {b n : Nat} (h : Below b a w) : Below b a (w.drewN n) := below_drewN h n
/-- the watch behind 'watch{}' -/
theorem c6_zero {w : World} {b : Nat} {c : Int} {s : Bool} {rv rw : Nat} {q : Int} {ex : Nat} (h : Cells6 w b c s rv rw q ex) :
    Cells6 ((((((w.setCell ⟨b, 0, none⟩ (.int .i64 0)).setCell ⟨b, 1, none⟩ (.bool false)).setCell ⟨b, 2, none⟩ (.float .f64 0)).setCell ⟨b, 3, none⟩ (.float .f64 0)).setCell ⟨b, 4, none⟩ (.int .i64 0)).setCell ⟨b, 5, none⟩ (.float .f64 0)) b 0 false 0 0 0 0 :=
  c6_set5 (c6_set4 (c6_set3 (c6_set2 (c6_set1 (c6_set0 h)))))
theorem b_zero {a w : World} {b : Nat} (h : Below b a w) :
    Below b a ((((((w.setCell ⟨b, 0, none⟩ (.int .i64 0)).setCell ⟨b, 1, none⟩ (.bool false)).setCell ⟨b, 2, none⟩ (.float .f64 0)).setCell ⟨b, 3, none⟩ (.float .f64 0)).setCell ⟨b, 4, none⟩ (.int .i64 0)).setCell ⟨b, 5, none⟩ (.float .f64 0)) :=
  bset (bset (bset (bset (bset (bset h)))))

/-- fewer than twenty -/
def lt20 (p : Nat) : Bool := nn p && decide (sv p < sv 4626322717216342016)
theorem lt20_eq (p : Nat) : (FloatKind.f64.format.order p 4626322717216342016 == some Ordering.lt) = lt20 p := by
  have := lt_b p 4626322717216342016
  rw [nn_20, Bool.and_true] at this
  exact this

/-- the end of 'watch.run', q1 and e1 being the quiet runs and the expectation, s1 the start mark, (rv1, rw1) the rate -/
def WE (s1 : Bool) (rv1 rw1 : Nat) (q1 : Int) (e1 : Nat) (stop s2 : Bool) (rv2 rw2 : Nat) (q2 : Int) (e2 : Nat) : Prop :=
  ∃ p, FR .mul e1 (floatOfInt .f64 q1) p ∧
    ((lt20 p = true ∧ stop = false ∧ s2 = s1 ∧ rv2 = rv1 ∧ rw2 = rw1 ∧ q2 = q1 ∧ e2 = e1) ∨ (lt20 p = false ∧ stop = true ∧ s2 = false ∧ rv2 = 0 ∧ rw2 = 0 ∧ q2 = 0 ∧ e2 = 0))

/-- the rate behind a run with count c -/
def RT (c : Int) (s : Bool) (rv rw rv1 rw1 : Nat) : Prop := (s = true ∧ MA rv rw (floatOfInt .f64 c) 4607092346807469998 rv1 rw1) ∨ (s = false ∧ rv1 = rv ∧ rw1 = rw)

set_option maxHeartbeats 2000000 in
theorem run17_pos_t (b : Nat) (c : Int) (rv rw : Nat) (q : Int) (ex : Nat) (w : World) (hc : 0 < c) (H : Cells6 w b c true rv rw q ex) (f0 : ∀ i, w.frozen? ⟨b, i, none⟩ = false) :
    Calls Try.prog 17 #[.pointer (some ⟨b, 0, none⟩)] w fun e w' => ∃ stop s2 rv2 rw2 q2 e2 rv1 rw1, RT c true rv rw rv1 rw1 ∧ WE true rv1 rw1 0 ex stop s2 rv2 rw2 q2 e2 ∧ e = .returned (.bool stop) ∧ Cells6 w' b 0 s2 rv2 rw2 q2 e2 ∧ Below b w w' := by
  have HH := H
  obtain ⟨h0, h1, h2, h3, h4, h5⟩ := H
  go_enter Try.func17, Try.ntmps17
  go_wp2_with fail
  go_region_with (go_at_call 20; go_loud (refine (add20 b 2 rv rw _ _ _ (by go_simp) (by go_simp) (by go_simp) (by go_simp)).mono ?_); rintro e w' ⟨rfl, p, wt', d, q', v', n, r1, r2, r3, r4, r5, rfl⟩)
  all_goals go_wp2_with fail
  go_region
  all_goals go_wp2_with fail
  all_goals
    rename_i hlt
    rw [lt20_eq] at hlt
    go_ret
  · exact ⟨false, true, v', wt', 0, ex, v', wt', .inl ⟨rfl, p, d, q', r1, r2, r3, r4, r5⟩, ⟨_, fq_FR _ _ _ _, .inl ⟨hlt, rfl, rfl, rfl, rfl, rfl, rfl⟩⟩, rfl,
      c6_drewN (c6_set0 (c6_set1 (c6_set2 (c6_set3 (c6_set4 HH))))), bdrewN (bset (bset (bset (bset (bset (Below.refl _ _))))))⟩
  · exact ⟨true, false, 0, 0, 0, 0, v', wt', .inl ⟨rfl, p, d, q', r1, r2, r3, r4, r5⟩, ⟨_, fq_FR _ _ _ _, .inr ⟨hlt, rfl, rfl, rfl, rfl, rfl, rfl⟩⟩, rfl,
      c6_drewN (c6_zero (c6_set0 (c6_set1 (c6_set2 (c6_set3 (c6_set4 HH)))))), bdrewN (b_zero (bset (bset (bset (bset (bset (Below.refl _ _)))))))⟩

set_option maxHeartbeats 2000000 in
theorem run17_pos_f (b : Nat) (c : Int) (rv rw : Nat) (q : Int) (ex : Nat) (w : World) (hc : 0 < c) (H : Cells6 w b c false rv rw q ex) (f0 : ∀ i, w.frozen? ⟨b, i, none⟩ = false) :
    Calls Try.prog 17 #[.pointer (some ⟨b, 0, none⟩)] w fun e w' => ∃ stop s2 rv2 rw2 q2 e2 rv1 rw1, RT c false rv rw rv1 rw1 ∧ WE true rv1 rw1 0 ex stop s2 rv2 rw2 q2 e2 ∧ e = .returned (.bool stop) ∧ Cells6 w' b 0 s2 rv2 rw2 q2 e2 ∧ Below b w w' := by
  have HH := H
  obtain ⟨h0, h1, h2, h3, h4, h5⟩ := H
  go_enter Try.func17, Try.ntmps17
  go_wp2_with fail
  go_region
  all_goals go_wp2_with fail
  all_goals
    rename_i hlt
    rw [lt20_eq] at hlt
    go_ret
  · exact ⟨false, true, rv, rw, 0, ex, rv, rw, .inr ⟨rfl, rfl, rfl⟩, ⟨_, fq_FR _ _ _ _, .inl ⟨hlt, rfl, rfl, rfl, rfl, rfl, rfl⟩⟩, rfl,
      c6_drewN (c6_set0 (c6_set1 (c6_set4 HH))), bdrewN (bset (bset (bset (Below.refl _ _))))⟩
  · exact ⟨true, false, 0, 0, 0, 0, rv, rw, .inr ⟨rfl, rfl, rfl⟩, ⟨_, fq_FR _ _ _ _, .inr ⟨hlt, rfl, rfl, rfl, rfl, rfl, rfl⟩⟩, rfl,
      c6_drewN (c6_zero (c6_set0 (c6_set1 (c6_set4 HH)))), bdrewN (b_zero (bset (bset (bset (Below.refl _ _)))))⟩
end Go.Proofs.Qxb6602616a
