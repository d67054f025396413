/- Plain laws of 'receipts.smooth' ('SM', 'ME'), and 'zzSameClass'. -/
import Derived.Test.Qxb6602616aS1
namespace Go.Proofs.Qxb6602616a
open Go.RowKit Fl
attribute [local go_sem] run_fadd run_fsub run_fmul run_fquo run_store_float setCell_drewN alloc_drewN ord_eq ord_ne ord_lt ord_gt ord_le ord_ge

theorem le_fq_s {a b : Nat} (h1 : nn a = true) (h : ∀ t, FR .add b 4607182418800017408 t → nn t = true ∧ sv a ≤ sv t) (w : World) : fle a (fq .add b 4607182418800017408 w) = true := by
  have := h _ (fq_FR .add b 4607182418800017408 w)
  exact fle_mk h1 this.1 this.2
theorem ge_one_s {a : Nat} (h1 : nn a = true) (h : (2 : Int) ^ 1074 ≤ sv a) : fge a 4607182418800017408 = true := fge_mk h1 (fin_nn fin_one) (by rw [sv_one]; exact h)
theorem ge_zero_s {a : Nat} (h1 : nn a = true) (h : 0 ≤ sv a) : fge a 0 = true := fge_mk h1 nn_zero (by rw [sv_zero]; exact h)

/-- zzSameClass -/
def sameB (a b : Nat) : Bool := feq a b || (!feq a a && !feq b b)
theorem feq_self (a : Nat) : feq a a = nn a := by unfold feq; cases nn a <;> simp
theorem sameB_of {a b : Nat} (h : Same a b) : sameB a b = true := by
  unfold sameB
  rcases h with ⟨h1, h2, h3⟩ | ⟨h1, h2⟩
  · rw [feq_mk h1 h2 h3, Bool.true_or]
  · rw [feq_self, feq_self, h1, h2]; simp
theorem same_refl (a : Nat) : Same a a := by
  cases h : nn a
  · exact .inr ⟨h, h⟩
  · exact .inl ⟨h, h, rfl⟩
theorem same_fr {op : BinOp} {x y r r' : Nat} (h : FR op x y r) (h' : FR op x y r') : Same r r' := by
  rcases h with ⟨s, h1, rfl⟩ | ⟨h1, h2⟩
  · obtain rfl := fr_some h' h1
    exact same_refl _
  · exact .inr ⟨h2, fr_none h' h1⟩

set_option maxHeartbeats 400000 in
theorem same16 (a b : Nat) (w : World) :
    Calls Try.prog 16 #[.float .f64 a, .float .f64 b] w fun e w' => e = .returned (.bool (sameB a b)) ∧ w' = w := by
  unfold sameB
  cases h1 : feq a b
  · cases h2 : feq a a
    · cases h3 : feq b b
      · go_enter Try.func16, Try.ntmps16
        go_wp2
        go_ret
        exact ⟨rfl, rfl⟩
      · go_enter Try.func16, Try.ntmps16
        go_wp2
        go_ret
        exact ⟨rfl, rfl⟩
    · go_enter Try.func16, Try.ntmps16
      go_wp2
      go_ret
      exact ⟨rfl, rfl⟩
  · go_enter Try.func16, Try.ntmps16
    go_wp2
    go_ret
    exact ⟨rfl, rfl⟩

theorem sv_1000 : sv 4652007308841189376 = 1000 * (2 : Int) ^ 1074 := by decide +kernel
theorem fin_1000 : fin 4652007308841189376 = true := by decide +kernel
theorem sv_2p100 : sv 5075556780046548992 = (2 : Int) ^ 1178 := by decide +kernel

/-- the share that a run keeps, with no negative count -/
theorem keep_law {c : Int} {a kp : Nat} (h0 : 0 ≤ c) (h1 : c ≤ 9223372036854775807) (ha : FR .add 4652007308841189376 (floatOfInt .f64 c) a) (hk : FR .quo 4652007308841189376 a kp) :
    fin kp = true ∧ 0 < sv kp ∧ sv kp ≤ (2 : Int) ^ 1074 := by
  obtain ⟨f1, f2, f3⟩ := int_fin (n := c) (by omega) h1
  have f4 := int_ge0 h0
  obtain ⟨r, a1, a2⟩ := add_fin fin_1000 f1
  obtain rfl := fr_some ha (by rw [fb_add]; exact a1)
  have hp := two_pow_ipos 1074
  have e1 : (2 : Int) ^ 1178 = 2 ^ 104 * (2 : Int) ^ 1074 := by decide +kernel
  have e2 : (2 : Int) ^ 1137 = 2 ^ 63 * (2 : Int) ^ 1074 := by decide +kernel
  have e3 : (2 : Int) ^ 1178 ≤ (2 : Int) ^ 1200 := by decide +kernel
  have b1 := rnd0_ge a2 (fin_nn fin_1000) (by omega)
  have b2 := rnd0_le a2 (z := 5075556780046548992) (by decide +kernel) (by rw [sv_2p100, sv_1000]; rw [e2] at f3; rw [e1]; generalize (2 : Int) ^ 1074 = A at *; omega)
  rw [sv_2p100] at b2
  have fa : fin a = true := fin_between a2.1 fin_1000 (b := 5075556780046548992) (by decide +kernel) b1 (by rw [sv_2p100]; exact b2)
  obtain ⟨r, d1, d2, d3, d4⟩ := div_share fin_1000 fa (by rw [sv_1000]; omega) b1 (Int.le_trans b2 e3)
  obtain rfl := fr_some hk (by rw [fb_quo]; exact d1)
  exact ⟨fin_between (a := 0) (b := 4607182418800017408) d2 (by decide +kernel) fin_one (by rw [sv_zero]; omega) (by rw [sv_one]; exact d4), d3, d4⟩

theorem keep_one {a kp : Nat} (ha : FR .add 4652007308841189376 (floatOfInt .f64 0) a) (hk : FR .quo 4652007308841189376 a kp) : kp = 4607182418800017408 := by
  rw [int_zero] at ha
  have h1 : floatBits .add .f64 4652007308841189376 0 = some 4652007308841189376 := by decide +kernel
  have h2 : floatBits .quo .f64 4652007308841189376 4652007308841189376 = some 4607182418800017408 := by decide +kernel
  obtain rfl := fr_some ha h1
  exact fr_some hk h2

/-- the weights, with no negative count of first receipts -/
theorem sm_weights {c d : Int} {fv fw gv gw fv' fw' gv' gw' : Nat} (h0 : 0 ≤ c) (h1 : c ≤ 9223372036854775807) (h : SM c d fv fw gv gw fv' fw' gv' gw') :
    (fge fw 0 = true → fge fw' 4607182418800017408 = true ∧ ∀ w, fle fw' (fq .add fw 4607182418800017408 w) = true) ∧ (fge gw 0 = true → fge gw' 4607182418800017408 = true ∧ ∀ w, fle gw' (fq .add gw 4607182418800017408 w) = true) := by
  obtain ⟨a, kp, ha, hk, ⟨p, x, q, r1, r2, r3, r4, r5⟩, ⟨p2, x2, q2, s1, s2, s3, s4, s5⟩⟩ := h
  obtain ⟨k1, k2, k3⟩ := keep_law h0 h1 ha hk
  constructor
  · intro hw
    have hw := fge_of hw
    rw [sv_zero] at hw
    obtain ⟨a1, a2, a3⟩ := weight_law k1 k2 k3 hw.1 hw.2.2 r1 r2
    exact ⟨ge_one_s a1 a2, le_fq_s a1 a3⟩
  · intro hw
    have hw := fge_of hw
    rw [sv_zero] at hw
    obtain ⟨a1, a2, a3⟩ := weight_law k1 k2 k3 hw.1 hw.2.2 s1 s2
    exact ⟨ge_one_s a1 a2, le_fq_s a1 a3⟩

/-- the weights, with no first receipt -/
theorem sm_one {d : Int} {fv fw gv gw fv' fw' gv' gw' : Nat} (h : SM 0 d fv fw gv gw fv' fw' gv' gw') :
    (∀ w, sameB fw' (fq .add fw 4607182418800017408 w) = true) ∧ (∀ w, sameB gw' (fq .add gw 4607182418800017408 w) = true) := by
  obtain ⟨a, kp, ha, hk, ⟨p, x, q, r1, r2, r3, r4, r5⟩, ⟨p2, x2, q2, s1, s2, s3, s4, s5⟩⟩ := h
  obtain rfl := keep_one ha hk
  exact ⟨fun w => sameB_of (weight_one r1 r2 (fq_FR _ _ _ w)), fun w => sameB_of (weight_one s1 s2 (fq_FR _ _ _ w))⟩

theorem fin_of_max {x : Nat} (h0 : fge x 0 = true) (h : fle x 9218868437227405311 = true) : fin x = true := by
  have h0 := fge_of h0
  have h := fle_of h
  exact fin_between (a := 0) (b := 9218868437227405311) h.1 (by decide +kernel) (by decide +kernel) h0.2.2 h.2.2

theorem ma_down {v wt v' wt' kp : Nat} (k1 : fin kp = true) (k2 : 0 < sv kp) (k3 : sv kp ≤ (2 : Int) ^ 1074) (h : MA v wt (floatOfInt .f64 0) kp v' wt') (h0 : fge v 0 = true) (h1 : fle v 9218868437227405311 = true) (hw : fge wt 0 = true) : fge v' 0 = true ∧ fle v' v = true := by
  obtain ⟨p, x, q, r1, r2, r3, r4, r5⟩ := h
  have hw := fge_of hw
  rw [sv_zero] at hw
  have fv := fin_of_max h0 h1
  have h0 := fge_of h0
  rw [sv_zero] at h0
  obtain ⟨a1, a2, a3⟩ := weight_law k1 k2 k3 hw.1 hw.2.2 r1 r2
  rw [int_zero] at r3
  obtain ⟨b1, b2, b3⟩ := value_falls (by decide +kernel) sv_zero fv h0.2.2 a1 a2 r3 r4 r5
  exact ⟨ge_zero_s b1 b2, fle_mk b1 h0.1 b3⟩

/-- the values, with no receipt at all -/
theorem sm_values {fv fw gv gw fv' fw' gv' gw' : Nat} (h : SM 0 0 fv fw gv gw fv' fw' gv' gw') :
    (fge fv 0 = true → fle fv 9218868437227405311 = true → fge fw 0 = true → fge fv' 0 = true ∧ fle fv' fv = true) ∧ (fge gv 0 = true → fle gv 9218868437227405311 = true → fge gw 0 = true → fge gv' 0 = true ∧ fle gv' gv = true) := by
  obtain ⟨a, kp, ha, hk, m1, m2⟩ := h
  obtain ⟨k1, k2, k3⟩ := keep_law (Int.le_refl 0) (by omega) ha hk
  exact ⟨fun a b c => ma_down k1 k2 k3 m1 a b c, fun a b c => ma_down k1 k2 k3 m2 a b c⟩

end Go.Proofs.Qxb6602616a
