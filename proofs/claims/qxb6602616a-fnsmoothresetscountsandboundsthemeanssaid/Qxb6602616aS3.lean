import Derived.Test.Qxb6602616aS2
namespace Go.Proofs.Qxb6602616a
open Go.RowKit Fl
attribute [local go_sem] run_fadd run_fsub run_fmul run_fquo run_store_float setCell_drewN alloc_drewN ord_eq ord_ne ord_lt ord_gt ord_le ord_ge

set_option maxRecDepth 100000 in
set_option maxHeartbeats 4000000 in
theorem smoothlaw_pos (c d : Int) (fv fw gv gw m : Nat) (w : World) (hc : 0 < c) (hc2 : c ≤ 9223372036854775807) :
    Calls Try.prog 7 #[.int .i64 c, .int .i64 d, .float .f64 fv, .float .f64 fw, .float .f64 gv, .float .f64 gw, .float .f64 m] w fun e w' => e = .returned (.bool true) ∧ Below w.heap.size w w' := by
  go_enter Try.func7, Try.ntmps7
  go_wp2_with fail
  refine (zzsmooth15 c d fv fw gv gw m _).mono ?_
  rintro e w1 ⟨fv', fw', gv', gw', m', hSM, hME, rfl, hb⟩
  have hM : ∀ w, sameB m' (fq .quo gv' fv' w) = true := by
    intro w
    rcases hME with ⟨_, h⟩ | ⟨h, _⟩
    · exact sameB_of (same_fr h (fq_FR _ _ _ w))
    · simp at h; omega
  obtain ⟨hW1, hW2⟩ := sm_weights (by omega) (by omega) hSM
  have a1 : fge fw 0 = true → fge fw' 4607182418800017408 = true := fun h => (hW1 h).1
  have a2 : fge fw 0 = true → ∀ w, fle fw' (fq .add fw 4607182418800017408 w) = true := fun h => (hW1 h).2
  have a3 : fge gw 0 = true → fge gw' 4607182418800017408 = true := fun h => (hW2 h).1
  have a4 : fge gw 0 = true → ∀ w, fle gw' (fq .add gw 4607182418800017408 w) = true := fun h => (hW2 h).2
  clear hW1 hW2
  clear hME hSM
  go_wp2_with (go_at_call 16; go_loud (refine (same16 _ _ _).mono ?_); rintro e w' ⟨rfl, rfl⟩)
  all_goals
    go_ret
    exact ⟨rfl, by first | exact hb | exact bdrewN hb⟩

set_option maxRecDepth 100000 in
set_option maxHeartbeats 4000000 in
theorem smoothlaw_zp (d : Int) (fv fw gv gw m : Nat) (w : World) (hd : 0 < d) :
    Calls Try.prog 7 #[.int .i64 0, .int .i64 d, .float .f64 fv, .float .f64 fw, .float .f64 gv, .float .f64 gw, .float .f64 m] w fun e w' => e = .returned (.bool true) ∧ Below w.heap.size w w' := by
  have hd0 : (d == 0) = false := beq_eq_false_iff_ne.2 (by omega)
  go_enter Try.func7, Try.ntmps7
  go_wp2_with fail
  refine (zzsmooth15 0 d fv fw gv gw m _).mono ?_
  rintro e w1 ⟨fv', fw', gv', gw', m', hSM, hME, rfl, hb⟩
  have hM : ∀ w, sameB m' (fq .quo gv' fv' w) = true := by
    intro w
    rcases hME with ⟨_, h⟩ | ⟨h, _⟩
    · exact sameB_of (same_fr h (fq_FR _ _ _ w))
    · simp at h; omega
  obtain ⟨hW1, hW2⟩ := sm_weights (by omega) (by omega) hSM
  have a1 : fge fw 0 = true → fge fw' 4607182418800017408 = true := fun h => (hW1 h).1
  have a2 : fge fw 0 = true → ∀ w, fle fw' (fq .add fw 4607182418800017408 w) = true := fun h => (hW1 h).2
  have a3 : fge gw 0 = true → fge gw' 4607182418800017408 = true := fun h => (hW2 h).1
  have a4 : fge gw 0 = true → ∀ w, fle gw' (fq .add gw 4607182418800017408 w) = true := fun h => (hW2 h).2
  clear hW1 hW2
  obtain ⟨b1, b2⟩ := sm_one hSM
  clear hME hSM
  go_wp2_with (go_at_call 16; go_loud (refine (same16 _ _ _).mono ?_); rintro e w' ⟨rfl, rfl⟩)
  all_goals
    go_ret
    exact ⟨rfl, by first | exact hb | exact bdrewN hb⟩

set_option maxRecDepth 100000 in
set_option maxHeartbeats 4000000 in
theorem smoothlaw_zn (d : Int) (fv fw gv gw m : Nat) (w : World) (hd : d < 0) :
    Calls Try.prog 7 #[.int .i64 0, .int .i64 d, .float .f64 fv, .float .f64 fw, .float .f64 gv, .float .f64 gw, .float .f64 m] w fun e w' => e = .returned (.bool true) ∧ Below w.heap.size w w' := by
  have hd1 : ¬ 0 < d := by omega
  have hd2 : decide (0 < d) = false := decide_eq_false hd1
  have hd0 : (d == 0) = false := beq_eq_false_iff_ne.2 (by omega)
  go_enter Try.func7, Try.ntmps7
  go_wp2_with fail
  refine (zzsmooth15 0 d fv fw gv gw m _).mono ?_
  rintro e w1 ⟨fv', fw', gv', gw', m', hSM, hME, rfl, hb⟩
  have hM : sameB m' m = true := by
    rcases hME with ⟨h, _⟩ | ⟨_, rfl⟩
    · simp at h; try omega
    · exact sameB_of (same_refl _)
  obtain ⟨hW1, hW2⟩ := sm_weights (by omega) (by omega) hSM
  have a1 : fge fw 0 = true → fge fw' 4607182418800017408 = true := fun h => (hW1 h).1
  have a2 : fge fw 0 = true → ∀ w, fle fw' (fq .add fw 4607182418800017408 w) = true := fun h => (hW1 h).2
  have a3 : fge gw 0 = true → fge gw' 4607182418800017408 = true := fun h => (hW2 h).1
  have a4 : fge gw 0 = true → ∀ w, fle gw' (fq .add gw 4607182418800017408 w) = true := fun h => (hW2 h).2
  clear hW1 hW2
  obtain ⟨b1, b2⟩ := sm_one hSM
  clear hME hSM
  go_wp2_with (go_at_call 16; go_loud (refine (same16 _ _ _).mono ?_); rintro e w' ⟨rfl, rfl⟩)
  all_goals
    go_ret
    exact ⟨rfl, by first | exact hb | exact bdrewN hb⟩

set_option maxRecDepth 100000 in
set_option maxHeartbeats 4000000 in
theorem smoothlaw_zz (fv fw gv gw m : Nat) (w : World) :
    Calls Try.prog 7 #[.int .i64 0, .int .i64 0, .float .f64 fv, .float .f64 fw, .float .f64 gv, .float .f64 gw, .float .f64 m] w fun e w' => e = .returned (.bool true) ∧ Below w.heap.size w w' := by
  go_enter Try.func7, Try.ntmps7
  go_wp2_with fail
  refine (zzsmooth15 0 0 fv fw gv gw m _).mono ?_
  rintro e w1 ⟨fv', fw', gv', gw', m', hSM, hME, rfl, hb⟩
  have hM : sameB m' m = true := by
    rcases hME with ⟨h, _⟩ | ⟨_, rfl⟩
    · simp at h; try omega
    · exact sameB_of (same_refl _)
  obtain ⟨hW1, hW2⟩ := sm_weights (by omega) (by omega) hSM
  have a1 : fge fw 0 = true → fge fw' 4607182418800017408 = true := fun h => (hW1 h).1
  have a2 : fge fw 0 = true → ∀ w, fle fw' (fq .add fw 4607182418800017408 w) = true := fun h => (hW1 h).2
  have a3 : fge gw 0 = true → fge gw' 4607182418800017408 = true := fun h => (hW2 h).1
  have a4 : fge gw 0 = true → ∀ w, fle gw' (fq .add gw 4607182418800017408 w) = true := fun h => (hW2 h).2
  clear hW1 hW2
  obtain ⟨b1, b2⟩ := sm_one hSM
  obtain ⟨hV1, hV2⟩ := sm_values hSM
  have v1 : fge fv 0 = true → fle fv 9218868437227405311 = true → fge fw 0 = true → fge fv' 0 = true := fun a b c => (hV1 a b c).1
  have v2 : fge fv 0 = true → fle fv 9218868437227405311 = true → fge fw 0 = true → fle fv' fv = true := fun a b c => (hV1 a b c).2
  have v3 : fge gv 0 = true → fle gv 9218868437227405311 = true → fge gw 0 = true → fge gv' 0 = true := fun a b c => (hV2 a b c).1
  have v4 : fge gv 0 = true → fle gv 9218868437227405311 = true → fge gw 0 = true → fle gv' gv = true := fun a b c => (hV2 a b c).2
  clear hV1 hV2
  clear hME hSM
  go_wp2_with (go_at_call 16; go_loud (refine (same16 _ _ _).mono ?_); rintro e w' ⟨rfl, rfl⟩)
  all_goals
    go_ret
    exact ⟨rfl, by first | exact hb | exact bdrewN hb⟩

set_option maxRecDepth 100000 in
set_option maxHeartbeats 4000000 in
theorem smoothlaw_np (c d : Int) (fv fw gv gw m : Nat) (w : World) (hc : c < 0) (hd : 0 < d) :
    Calls Try.prog 7 #[.int .i64 c, .int .i64 d, .float .f64 fv, .float .f64 fw, .float .f64 gv, .float .f64 gw, .float .f64 m] w fun e w' => e = .returned (.bool true) ∧ Below w.heap.size w w' := by
  have hc1 : ¬ 0 < c := by omega
  have hc2 : decide (0 < c) = false := decide_eq_false hc1
  go_enter Try.func7, Try.ntmps7
  go_wp2_with fail
  refine (zzsmooth15 c d fv fw gv gw m _).mono ?_
  rintro e w1 ⟨fv', fw', gv', gw', m', hSM, hME, rfl, hb⟩
  have hM : ∀ w, sameB m' (fq .quo gv' fv' w) = true := by
    intro w
    rcases hME with ⟨_, h⟩ | ⟨h, _⟩
    · exact sameB_of (same_fr h (fq_FR _ _ _ w))
    · simp at h; omega
  clear hME hSM
  go_wp2_with (go_at_call 16; go_loud (refine (same16 _ _ _).mono ?_); rintro e w' ⟨rfl, rfl⟩)
  all_goals
    go_ret
    exact ⟨rfl, by first | exact hb | exact bdrewN hb⟩

set_option maxRecDepth 100000 in
set_option maxHeartbeats 4000000 in
theorem smoothlaw_nn (c d : Int) (fv fw gv gw m : Nat) (w : World) (hc : c < 0) (hd : ¬ 0 < d) :
    Calls Try.prog 7 #[.int .i64 c, .int .i64 d, .float .f64 fv, .float .f64 fw, .float .f64 gv, .float .f64 gw, .float .f64 m] w fun e w' => e = .returned (.bool true) ∧ Below w.heap.size w w' := by
  have hc1 : ¬ 0 < c := by omega
  have hc2 : decide (0 < c) = false := decide_eq_false hc1
  have hd2 : decide (0 < d) = false := decide_eq_false hd
  go_enter Try.func7, Try.ntmps7
  go_wp2_with fail
  refine (zzsmooth15 c d fv fw gv gw m _).mono ?_
  rintro e w1 ⟨fv', fw', gv', gw', m', hSM, hME, rfl, hb⟩
  have hM : sameB m' m = true := by
    rcases hME with ⟨h, _⟩ | ⟨_, rfl⟩
    · simp at h; try omega
    · exact sameB_of (same_refl _)
  clear hME hSM
  go_wp2_with (go_at_call 16; go_loud (refine (same16 _ _ _).mono ?_); rintro e w' ⟨rfl, rfl⟩)
  all_goals
    go_ret
    exact ⟨rfl, by first | exact hb | exact bdrewN hb⟩

theorem smoothlaw (c d : Int) (fv fw gv gw m : Nat) (w : World) (hc2 : c ≤ 9223372036854775807) :
    Calls Try.prog 7 #[.int .i64 c, .int .i64 d, .float .f64 fv, .float .f64 fw, .float .f64 gv, .float .f64 gw, .float .f64 m] w fun e w' => e = .returned (.bool true) ∧ Below w.heap.size w w' := by
  by_cases hc : 0 < c
  · exact smoothlaw_pos c d fv fw gv gw m w hc hc2
  by_cases hc0 : c = 0
  · subst hc0
    by_cases hd : 0 < d
    · exact smoothlaw_zp d fv fw gv gw m w hd
    by_cases hd0 : d = 0
    · subst hd0; exact smoothlaw_zz fv fw gv gw m w
    · exact smoothlaw_zn d fv fw gv gw m w (by omega)
  · by_cases hd : 0 < d
    · exact smoothlaw_np c d fv fw gv gw m w (by omega) hd
    · exact smoothlaw_nn c d fv fw gv gw m w (by omega) hd
end Go.Proofs.Qxb6602616a
