import Derived.Test.Qxb6602616aW5
namespace Go.Proofs.Qxb6602616a
open Go.RowKit Fl
attribute [local go_sem] run_fadd run_fsub run_fmul run_fquo run_store_float setCell_drewN alloc_drewN

/-- the seven cells of receipts -/
def Cells7 (w : World) (b : Nat) (c d : Int) (fv fw gv gw m : Nat) : Prop :=
  w.cell? ⟨b, 0, none⟩ = some (.int .i64 c) ∧ w.cell? ⟨b, 1, none⟩ = some (.int .i64 d) ∧ w.cell? ⟨b, 2, none⟩ = some (.float .f64 fv) ∧ w.cell? ⟨b, 3, none⟩ = some (.float .f64 fw) ∧ w.cell? ⟨b, 4, none⟩ = some (.float .f64 gv) ∧ w.cell? ⟨b, 5, none⟩ = some (.float .f64 gw) ∧ w.cell? ⟨b, 6, none⟩ = some (.float .f64 m)
theorem c7_drewN {w : World} {b : Nat} {c d : Int} {fv fw gv gw m n : Nat} (h : Cells7 w b c d fv fw gv gw m) : Cells7 (w.drewN n) b c d fv fw gv gw m := h
theorem c7_set0 {w : World} {b : Nat} {c d : Int} {fv fw gv gw m : Nat} {c' : Int} (h : Cells7 w b c d fv fw gv gw m) : Cells7 (w.setCell ⟨b, 0, none⟩ (.int .i64 c')) b c' d fv fw gv gw m := by
  obtain ⟨h0, h1, h2, h3, h4, h5, h6⟩ := h
  exact ⟨cset_same h0, by rw [cset_other (by decide)]; exact h1, by rw [cset_other (by decide)]; exact h2, by rw [cset_other (by decide)]; exact h3, by rw [cset_other (by decide)]; exact h4, by rw [cset_other (by decide)]; exact h5, by rw [cset_other (by decide)]; exact h6⟩
theorem c7_set1 {w : World} {b : Nat} {c d : Int} {fv fw gv gw m : Nat} {d' : Int} (h : Cells7 w b c d fv fw gv gw m) : Cells7 (w.setCell ⟨b, 1, none⟩ (.int .i64 d')) b c d' fv fw gv gw m := by
  obtain ⟨h0, h1, h2, h3, h4, h5, h6⟩ := h
  exact ⟨by rw [cset_other (by decide)]; exact h0, cset_same h1, by rw [cset_other (by decide)]; exact h2, by rw [cset_other (by decide)]; exact h3, by rw [cset_other (by decide)]; exact h4, by rw [cset_other (by decide)]; exact h5, by rw [cset_other (by decide)]; exact h6⟩
theorem c7_set2 {w : World} {b : Nat} {c d : Int} {fv fw gv gw m : Nat} {fv' : Nat} (h : Cells7 w b c d fv fw gv gw m) : Cells7 (w.setCell ⟨b, 2, none⟩ (.float .f64 fv')) b c d fv' fw gv gw m := by
  obtain ⟨h0, h1, h2, h3, h4, h5, h6⟩ := h
  exact ⟨by rw [cset_other (by decide)]; exact h0, by rw [cset_other (by decide)]; exact h1, cset_same h2, by rw [cset_other (by decide)]; exact h3, by rw [cset_other (by decide)]; exact h4, by rw [cset_other (by decide)]; exact h5, by rw [cset_other (by decide)]; exact h6⟩
theorem c7_set3 {w : World} {b : Nat} {c d : Int} {fv fw gv gw m : Nat} {fw' : Nat} (h : Cells7 w b c d fv fw gv gw m) : Cells7 (w.setCell ⟨b, 3, none⟩ (.float .f64 fw')) b c d fv fw' gv gw m := by
  obtain ⟨h0, h1, h2, h3, h4, h5, h6⟩ := h
  exact ⟨by rw [cset_other (by decide)]; exact h0, by rw [cset_other (by decide)]; exact h1, by rw [cset_other (by decide)]; exact h2, cset_same h3, by rw [cset_other (by decide)]; exact h4, by rw [cset_other (by decide)]; exact h5, by rw [cset_other (by decide)]; exact h6⟩
theorem c7_set4 {w : World} {b : Nat} {c d : Int} {fv fw gv gw m : Nat} {gv' : Nat} (h : Cells7 w b c d fv fw gv gw m) : Cells7 (w.setCell ⟨b, 4, none⟩ (.float .f64 gv')) b c d fv fw gv' gw m := by
  obtain ⟨h0, h1, h2, h3, h4, h5, h6⟩ := h
  exact ⟨by rw [cset_other (by decide)]; exact h0, by rw [cset_other (by decide)]; exact h1, by rw [cset_other (by decide)]; exact h2, by rw [cset_other (by decide)]; exact h3, cset_same h4, by rw [cset_other (by decide)]; exact h5, by rw [cset_other (by decide)]; exact h6⟩
theorem c7_set5 {w : World} {b : Nat} {c d : Int} {fv fw gv gw m : Nat} {gw' : Nat} (h : Cells7 w b c d fv fw gv gw m) : Cells7 (w.setCell ⟨b, 5, none⟩ (.float .f64 gw')) b c d fv fw gv gw' m := by
  obtain ⟨h0, h1, h2, h3, h4, h5, h6⟩ := h
  exact ⟨by rw [cset_other (by decide)]; exact h0, by rw [cset_other (by decide)]; exact h1, by rw [cset_other (by decide)]; exact h2, by rw [cset_other (by decide)]; exact h3, by rw [cset_other (by decide)]; exact h4, cset_same h5, by rw [cset_other (by decide)]; exact h6⟩
theorem c7_set6 {w : World} {b : Nat} {c d : Int} {fv fw gv gw m : Nat} {m' : Nat} (h : Cells7 w b c d fv fw gv gw m) : Cells7 (w.setCell ⟨b, 6, none⟩ (.float .f64 m')) b c d fv fw gv gw m' := by
  obtain ⟨h0, h1, h2, h3, h4, h5, h6⟩ := h
  exact ⟨by rw [cset_other (by decide)]; exact h0, by rw [cset_other (by decide)]; exact h1, by rw [cset_other (by decide)]; exact h2, by rw [cset_other (by decide)]; exact h3, by rw [cset_other (by decide)]; exact h4, by rw [cset_other (by decide)]; exact h5, cset_same h6⟩
theorem c7_new (w : World) (c d : Int) (fv fw gv gw m : Nat) : Cells7 (w.alloc (.cells #[.int .i64 c, .int .i64 d, .float .f64 fv, .float .f64 fw, .float .f64 gv, .float .f64 gw, .float .f64 m] 59)) w.heap.size c d fv fw gv gw m := by
  refine ⟨?_, ?_, ?_, ?_, ?_, ?_, ?_⟩ <;> go_simp
theorem fz7_new (w : World) (c d : Int) (fv fw gv gw m : Nat) (i : Nat) : (w.alloc (.cells #[.int .i64 c, .int .i64 d, .float .f64 fv, .float .f64 fw, .float .f64 gv, .float .f64 gw, .float .f64 m] 59)).frozen? ⟨w.heap.size, i, none⟩ = false :=
  World.frozen?_alloc_new w _ _ i

/-- what 'receipts.smooth' makes of the means -/
def SM (c d : Int) (fv fw gv gw fv' fw' gv' gw' : Nat) : Prop :=
  ∃ a kp, FR .add 4652007308841189376 (floatOfInt .f64 c) a ∧ FR .quo 4652007308841189376 a kp ∧ MA fv fw (floatOfInt .f64 c) kp fv' fw' ∧ MA gv gw (floatOfInt .f64 d) kp gv' gw'
/-- and the measured ratio -/
def ME (k : Bool) (fv' gv' m m' : Nat) : Prop := (k = true ∧ FR .quo gv' fv' m') ∨ (k = false ∧ m' = m)

set_option maxHeartbeats 2000000 in
theorem smooth_a (b : Nat) (c d : Int) (fv fw gv gw m : Nat) (w : World) (hc : 0 < c) (H : Cells7 w b c d fv fw gv gw m) (f0 : ∀ i, w.frozen? ⟨b, i, none⟩ = false) :
    Calls Try.prog 19 #[.pointer (some ⟨b, 0, none⟩)] w fun e w' => ∃ fv' fw' gv' gw' m', SM c d fv fw gv gw fv' fw' gv' gw' ∧ ME true fv' gv' m m' ∧ e = .returned (.bool true) ∧ Cells7 w' b 0 0 fv' fw' gv' gw' m' ∧ Below b w w' := by
  have HH := H
  obtain ⟨h0, h1, h2, h3, h4, h5, h6⟩ := H
  go_enter Try.func19, Try.ntmps19
  go_wp2_with fail
  go_region_with (go_at_call 20; go_loud (refine (add20 b 2 fv fw _ _ _ (by go_simp) (by go_simp) (by go_simp) (by go_simp)).mono ?_); rintro e w' ⟨rfl, p, wt', x, q', v', n, r1, r2, r3, r4, r5, rfl⟩)
  all_goals go_wp2_with fail
  go_region_with (go_at_call 20; go_loud (refine (add20 b 4 gv gw _ _ _ (by go_simp) (by go_simp) (by go_simp) (by go_simp)).mono ?_); rintro e w' ⟨rfl, p2, wt2, x2, q2, v2, n2, s1, s2, s3, s4, s5, rfl⟩)
  all_goals go_wp2_with fail
  go_region
  all_goals go_wp2_with fail
  go_ret
  exact ⟨v', wt', v2, wt2, _, ⟨_, _, fq_FR _ _ _ _, fq_FR _ _ _ _, ⟨p, x, q', r1, r2, r3, r4, r5⟩, ⟨p2, x2, q2, s1, s2, s3, s4, s5⟩⟩, .inl ⟨rfl, fq_FR _ _ _ _⟩, rfl,
    c7_drewN (c7_set6 (c7_set1 (c7_set0 (c7_set4 (c7_set5 (c7_set2 (c7_set3 HH))))))), bdrewN (bset (bset (bset (bset (bset (bset (bset (Below.refl _ _))))))))⟩

set_option maxHeartbeats 2000000 in
theorem smooth_b (b : Nat) (c d : Int) (fv fw gv gw m : Nat) (w : World) (hc : ¬ 0 < c) (hd : 0 < d) (H : Cells7 w b c d fv fw gv gw m) (f0 : ∀ i, w.frozen? ⟨b, i, none⟩ = false) :
    Calls Try.prog 19 #[.pointer (some ⟨b, 0, none⟩)] w fun e w' => ∃ fv' fw' gv' gw' m', SM c d fv fw gv gw fv' fw' gv' gw' ∧ ME true fv' gv' m m' ∧ e = .returned (.bool true) ∧ Cells7 w' b 0 0 fv' fw' gv' gw' m' ∧ Below b w w' := by
  have HH := H
  obtain ⟨h0, h1, h2, h3, h4, h5, h6⟩ := H
  have hcd : decide (0 < c) = false := by simpa using hc
  go_enter Try.func19, Try.ntmps19
  go_wp2_with fail
  go_region_with (go_at_call 20; go_loud (refine (add20 b 2 fv fw _ _ _ (by go_simp) (by go_simp) (by go_simp) (by go_simp)).mono ?_); rintro e w' ⟨rfl, p, wt', x, q', v', n, r1, r2, r3, r4, r5, rfl⟩)
  all_goals go_wp2_with fail
  go_region_with (go_at_call 20; go_loud (refine (add20 b 4 gv gw _ _ _ (by go_simp) (by go_simp) (by go_simp) (by go_simp)).mono ?_); rintro e w' ⟨rfl, p2, wt2, x2, q2, v2, n2, s1, s2, s3, s4, s5, rfl⟩)
  all_goals go_wp2_with fail
  go_region
  all_goals go_wp2_with fail
  go_ret
  exact ⟨v', wt', v2, wt2, _, ⟨_, _, fq_FR _ _ _ _, fq_FR _ _ _ _, ⟨p, x, q', r1, r2, r3, r4, r5⟩, ⟨p2, x2, q2, s1, s2, s3, s4, s5⟩⟩, .inl ⟨rfl, fq_FR _ _ _ _⟩, rfl,
    c7_drewN (c7_set6 (c7_set1 (c7_set0 (c7_set4 (c7_set5 (c7_set2 (c7_set3 HH))))))), bdrewN (bset (bset (bset (bset (bset (bset (bset (Below.refl _ _))))))))⟩

set_option maxHeartbeats 2000000 in
theorem smooth_n (b : Nat) (c d : Int) (fv fw gv gw m : Nat) (w : World) (hc : ¬ 0 < c) (hd : ¬ 0 < d) (H : Cells7 w b c d fv fw gv gw m) (f0 : ∀ i, w.frozen? ⟨b, i, none⟩ = false) :
    Calls Try.prog 19 #[.pointer (some ⟨b, 0, none⟩)] w fun e w' => ∃ fv' fw' gv' gw' m', SM c d fv fw gv gw fv' fw' gv' gw' ∧ ME false fv' gv' m m' ∧ e = .returned (.bool false) ∧ Cells7 w' b 0 0 fv' fw' gv' gw' m' ∧ Below b w w' := by
  have HH := H
  obtain ⟨h0, h1, h2, h3, h4, h5, h6⟩ := H
  have hcd : decide (0 < c) = false := by simpa using hc
  have hdd : decide (0 < d) = false := by simpa using hd
  go_enter Try.func19, Try.ntmps19
  go_wp2_with fail
  go_region_with (go_at_call 20; go_loud (refine (add20 b 2 fv fw _ _ _ (by go_simp) (by go_simp) (by go_simp) (by go_simp)).mono ?_); rintro e w' ⟨rfl, p, wt', x, q', v', n, r1, r2, r3, r4, r5, rfl⟩)
  all_goals go_wp2_with fail
  go_region_with (go_at_call 20; go_loud (refine (add20 b 4 gv gw _ _ _ (by go_simp) (by go_simp) (by go_simp) (by go_simp)).mono ?_); rintro e w' ⟨rfl, p2, wt2, x2, q2, v2, n2, s1, s2, s3, s4, s5, rfl⟩)
  all_goals go_wp2_with fail
  go_ret
  exact ⟨v', wt', v2, wt2, m, ⟨_, _, fq_FR _ _ _ _, fq_FR _ _ _ _, ⟨p, x, q', r1, r2, r3, r4, r5⟩, ⟨p2, x2, q2, s1, s2, s3, s4, s5⟩⟩, .inr ⟨rfl, rfl⟩, rfl,
    c7_drewN (c7_set1 (c7_set0 (c7_set4 (c7_set5 (c7_set2 (c7_set3 HH)))))), bdrewN (bset (bset (bset (bset (bset (bset (Below.refl _ _)))))))⟩

theorem smooth19 (b : Nat) (c d : Int) (fv fw gv gw m : Nat) (w : World) (H : Cells7 w b c d fv fw gv gw m) (f0 : ∀ i, w.frozen? ⟨b, i, none⟩ = false) :
    Calls Try.prog 19 #[.pointer (some ⟨b, 0, none⟩)] w fun e w' => ∃ fv' fw' gv' gw' m', SM c d fv fw gv gw fv' fw' gv' gw' ∧ ME (decide (0 < c) || decide (0 < d)) fv' gv' m m' ∧ e = .returned (.bool (decide (0 < c) || decide (0 < d))) ∧ Cells7 w' b 0 0 fv' fw' gv' gw' m' ∧ Below b w w' := by
  by_cases hc : 0 < c
  · rw [decide_eq_true hc, Bool.true_or]; exact smooth_a b c d fv fw gv gw m w hc H f0
  · rw [decide_eq_false hc, Bool.false_or]
    by_cases hd : 0 < d
    · rw [decide_eq_true hd]; exact smooth_b b c d fv fw gv gw m w hc hd H f0
    · rw [decide_eq_false hd]; exact smooth_n b c d fv fw gv gw m w hc hd H f0

set_option maxHeartbeats 2000000 in
theorem zzsmooth15 (c d : Int) (fv fw gv gw m : Nat) (w : World) :
    Calls Try.prog 15 #[.int .i64 c, .int .i64 d, .float .f64 fv, .float .f64 fw, .float .f64 gv, .float .f64 gw, .float .f64 m] w fun e w' => ∃ fv' fw' gv' gw' m', SM c d fv fw gv gw fv' fw' gv' gw' ∧ ME (decide (0 < c) || decide (0 < d)) fv' gv' m m' ∧
      e = .returned (.tuple #[.bool (decide (0 < c) || decide (0 < d)), .int .i64 0, .int .i64 0, .float .f64 fv', .float .f64 fw', .float .f64 gv', .float .f64 gw', .float .f64 m']) ∧ Below w.heap.size w w' := by
  have hA := c7_new w c d fv fw gv gw m
  have hF := fz7_new w c d fv fw gv gw m
  have HA : Hid (Cells7 _ _ _ _ _ _ _ _ _) := hA
  have HF : Hid (∀ i, _ = false) := hF
  clear hA hF
  go_enter Try.func15, Try.ntmps15
  go_wp2_with fail
  refine (smooth19 w.heap.size c d fv fw gv gw m _ HA.out HF.out).mono ?_
  rintro e w1 ⟨fv', fw', gv', gw', m', hSM, hME, rfl, ⟨h0, h1, h2, h3, h4, h5, h6⟩, hb⟩
  have HR : Hid (SM c d fv fw gv gw fv' fw' gv' gw' ∧ ME (decide (0 < c) || decide (0 < d)) fv' gv' m m') := ⟨hSM, hME⟩
  clear hSM hME HA HF
  obtain ⟨K, hK⟩ : ∃ K, (decide (0 < c) || decide (0 < d)) = K := ⟨_, rfl⟩
  rw [hK]
  have HK : Hid ((decide (0 < c) || decide (0 < d)) = K) := hK
  clear hK
  go_wp2_with fail
  go_quiet (fail)
  go_wp2_with fail
  have hK := HK.out
  subst hK
  refine bodyPost_ret (v := .tuple #[.bool (decide (0 < c) || decide (0 < d)), .int .i64 0, .int .i64 0, .float .f64 fv', .float .f64 fw', .float .f64 gv', .float .f64 gw', .float .f64 m']) (by simp [results, Try.results15, go_sem]) rfl ⟨fv', fw', gv', gw', m', HR.out.1, HR.out.2, rfl, ?_⟩
  exact bdrewN (((Below.refl _ _).alloc (Nat.le_refl _) _).trans hb)
end Go.Proofs.Qxb6602616a
