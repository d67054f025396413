/- Plain theory of the double format, part 3: division; that a rounded sum is monotone. No Go in sight. -/
import Derived.Test.Qxb6602616aFl2
namespace Go.Proofs.Qxb6602616a.Fl
open Ieee

/-! ### division -/
theorem pw1 (m a e c : Nat) : 2 * (m * 2 ^ a) * 2 ^ (e + c) = m * 2 ^ e * 2 ^ (a + c + 1) := by
  rw [Nat.pow_succ, Nat.pow_add 2 a, Nat.pow_add 2 e]; ac_rfl
theorem pw2 (a e c : Nat) : 2 * 2 ^ a * 2 ^ (e + c) = 2 ^ c * 2 ^ (a + e + 1) := by
  rw [Nat.pow_succ, Nat.pow_add 2 a, Nat.pow_add 2 e]; ac_rfl
theorem pw3 (c d more n : Nat) (h : c ≤ d + more) : 2 ^ (d + more - c) * n * 2 ^ c = 2 ^ more * (n * 2 ^ d) := by
  obtain ⟨t, ht⟩ : ∃ t, d + more = t + c := ⟨d + more - c, by omega⟩
  have : 2 ^ more * (n * 2 ^ d) = n * 2 ^ (d + more) := by rw [Nat.pow_add]; ac_rfl
  rw [this, ht, Nat.add_sub_cancel, Nat.pow_add]; ac_rfl
theorem pw4 (e c b : Nat) : 2 * 2 ^ b * 2 ^ (e + c) = 2 ^ (e + c + (b + 1)) := by
  rw [Nat.pow_add 2 (e + c), Nat.pow_succ]; ac_rfl
theorem div_form {x y : Nat} (hx : fin x = true) (hy : fin y = true) (h0 : 0 < sv y) : ∃ r m e n d : Nat, double.div x y = some r ∧ sv x = sg (ngv x) (m * 2 ^ e) ∧ sv y = ((n * 2 ^ d : Nat) : Int) ∧ n ≠ 0 ∧ m < 2 ^ 53 ∧
    Rnd (sg (ngv x) ((2 * (m * 2 ^ (54 + n.log2 - m.log2) / n) + (m * 2 ^ (54 + n.log2 - m.log2) % n != 0).toNat) * 2 ^ (e + 1074))) (d + (54 + n.log2 - m.log2) + 1) r := by
  obtain ⟨m, e, r1, u1, hm⟩ := read_fin hx
  obtain ⟨n, d, r2, u2, _⟩ := read_fin hy
  rw [sv_fin u2] at h0
  have hn : n ≠ 0 := by intro e; subst e; simp [sg] at h0
  have hs : ngv y = false := by
    cases h : ngv y
    · rfl
    · have := sg_le (a := n * 2 ^ d) h; omega
  unfold Format.div
  rw [r1, r2]
  simp only [Datum.quotient, if_neg hn, dbl_fr, Nat.shiftLeft_eq]
  refine ⟨_, m, e, n, d, rfl, sv_fin u1, by rw [sv_fin u2, hs]; rfl, hn, hm, ?_⟩
  have e54 : 52 + 2 + n.log2 - m.log2 = 54 + n.log2 - m.log2 := rfl
  rw [e54, hs, Bool.xor_false]
  generalize 54 + n.log2 - m.log2 = more
  exact write_rnd (ngv x) _ _ (e + 1074) (d + more + 1) (by omega)

theorem lt_two_pow53 {m : Nat} (h : m < 2 ^ 53) : m.log2 ≤ 52 := by
  by_cases h0 : m = 0
  · subst h0; decide
  · have h1 : 2 ^ m.log2 ≤ m := Nat.log2_self_le h0
    have h2 : 2 ^ m.log2 < 2 ^ 53 := by omega
    have := (Nat.pow_lt_pow_iff_right (a := 2) (by omega)).1 h2
    omega

theorem sv_zero : sv 0 = 0 := by decide
theorem nn_zero : nn 0 = true := by decide
theorem sv_one : sv 4607182418800017408 = (2 : Int) ^ 1074 := by decide +kernel
theorem fin_one : fin 4607182418800017408 = true := by decide +kernel

theorem rnd_ge0 {V : Int} {K r : Nat} (h : Rnd V K r) (hv : 0 ≤ V) : 0 ≤ sv r := by
  have := (h.2 0 nn_zero).2 (by rw [sv_zero]; omega)
  rw [sv_zero] at this; exact this
theorem rnd_le0 {V : Int} {K r : Nat} (h : Rnd V K r) (hv : V ≤ 0) : sv r ≤ 0 := by
  have := (h.2 0 nn_zero).1 (by rw [sv_zero]; omega)
  rw [sv_zero] at this; exact this

/-- a number over one of 1 or more: no further from nought than it was -/
theorem div_bound {x y : Nat} (hx : fin x = true) (hy : fin y = true) (h1 : (2 : Int) ^ 1074 ≤ sv y) :
    ∃ r, double.div x y = some r ∧ nn r = true ∧ (0 ≤ sv x → 0 ≤ sv r ∧ sv r ≤ sv x) ∧ (sv x ≤ 0 → sv x ≤ sv r ∧ sv r ≤ 0) := by
  obtain ⟨r, m, e, n, d, hr, ex, ey, hn, hm, hR⟩ := div_form hx hy (by have := two_pow_ipos 1074; omega)
  refine ⟨r, hr, hR.1, ?_⟩
  have hl := lt_two_pow53 hm
  have hN : 2 ^ 1074 ≤ n * 2 ^ d := by rw [ey, ← two_pow_cast] at h1; exact Int.ofNat_le.1 h1
  have hn2 : n < 2 ^ (n.log2 + 1) := Nat.lt_log2_self
  have hlog : 1074 ≤ n.log2 + d := by
    have h2 : 2 ^ 1074 < 2 ^ (n.log2 + 1 + d) := by
      refine Nat.lt_of_le_of_lt hN ?_
      rw [Nat.pow_add]
      exact Nat.mul_lt_mul_of_pos_right hn2 (Nat.two_pow_pos _)
    have := (Nat.pow_lt_pow_iff_right (a := 2) (by omega)).1 h2
    omega
  have hmore : 1074 ≤ d + (54 + n.log2 - m.log2) := by omega
  generalize 54 + n.log2 - m.log2 = more at *
  have hq := (quot_spec (m * 2 ^ more) n (m * 2 ^ (d + more - 1074)) hn).1 (by
    have h3 : 2 ^ more ≤ 2 ^ (d + more - 1074) * n := by
      have h4 : 2 ^ more * 2 ^ 1074 ≤ 2 ^ (d + more - 1074) * n * 2 ^ 1074 := by
        rw [pw3 1074 d more n hmore]
        exact Nat.mul_le_mul_left _ hN
      exact Nat.le_of_mul_le_mul_right h4 (Nat.two_pow_pos 1074)
    rw [Nat.mul_assoc]
    exact Nat.mul_le_mul_left _ h3)
  generalize 2 * (m * 2 ^ more / n) + (m * 2 ^ more % n != 0).toNat = M at *
  have hb : M * 2 ^ (e + 1074) ≤ m * 2 ^ e * 2 ^ (d + more + 1) := by
    refine Nat.le_trans (Nat.mul_le_mul_right _ hq) ?_
    have := pw1 m (d + more - 1074) e 1074
    rw [show d + more - 1074 + 1074 + 1 = d + more + 1 from by omega] at this
    exact Nat.le_of_eq this
  have hbi : ((M * 2 ^ (e + 1074) : Nat) : Int) ≤ ((m * 2 ^ e : Nat) : Int) * (2 : Int) ^ (d + more + 1) := by
    rw [← two_pow_cast (d + more + 1)]
    exact Int.ofNat_le.2 hb
  cases hs : ngv x
  · rw [hs] at hR ex
    have a1 := rnd_ge0 hR (sg_ge rfl)
    have a2 := (hR.2 x (fin_nn hx)).1 (by rw [ex]; simpa [sg] using hbi)
    have a3 : 0 ≤ sv x := by rw [ex]; exact sg_ge rfl
    omega
  · rw [hs] at hR ex
    have a1 := rnd_le0 hR (sg_le rfl)
    have a2 := (hR.2 x (fin_nn hx)).2 (by
      rw [ex]; show -((m * 2 ^ e : Nat) : Int) * _ ≤ -((M * 2 ^ (e + 1074) : Nat) : Int)
      rw [Int.neg_mul]; omega)
    have a3 : sv x ≤ 0 := by rw [ex]; exact sg_le rfl
    omega

/-- 1 or more over no less: in (0, 1] (here with a bound above for the divisor) -/
theorem div_share {x y : Nat} (hx : fin x = true) (hy : fin y = true) (h1 : (2 : Int) ^ 1074 ≤ sv x) (h2 : sv x ≤ sv y) (h3 : sv y ≤ (2 : Int) ^ 1200) :
    ∃ r, double.div x y = some r ∧ nn r = true ∧ 0 < sv r ∧ sv r ≤ (2 : Int) ^ 1074 := by
  have hp := two_pow_ipos 1074
  obtain ⟨r, m, e, n, d, hr, ex, ey, hn, hm, hR⟩ := div_form hx hy (by omega)
  have hs : ngv x = false := by
    cases h : ngv x
    · rfl
    · have := sg_le (a := m * 2 ^ e) h; omega
  rw [hs] at ex hR
  have ex' : sv x = ((m * 2 ^ e : Nat) : Int) := ex
  refine ⟨r, hr, hR.1, ?_⟩
  have hl := lt_two_pow53 hm
  have hX : 2 ^ 1074 ≤ m * 2 ^ e := by rw [ex', ← two_pow_cast] at h1; exact Int.ofNat_le.1 h1
  have hXY : m * 2 ^ e ≤ n * 2 ^ d := by rw [ex', ey] at h2; exact Int.ofNat_le.1 h2
  have hY : n * 2 ^ d ≤ 2 ^ 1200 := by rw [ey, ← two_pow_cast] at h3; exact Int.ofNat_le.1 h3
  have hm0 : m ≠ 0 := by intro e; subst e; have := Nat.two_pow_pos 1074; omega
  have hm1 : 2 ^ m.log2 ≤ m := Nat.log2_self_le hm0
  have hm2 : m < 2 ^ (m.log2 + 1) := Nat.lt_log2_self
  have hn1 : 2 ^ n.log2 ≤ n := Nat.log2_self_le hn
  have hn2 : n < 2 ^ (n.log2 + 1) := Nat.lt_log2_self
  have g1 : m.log2 + e ≤ n.log2 + d := by
    have h2 : 2 ^ (m.log2 + e) < 2 ^ (n.log2 + 1 + d) := by
      rw [Nat.pow_add, Nat.pow_add 2 (n.log2 + 1)]
      have a := Nat.mul_le_mul_right (2 ^ e) hm1
      have b := Nat.mul_lt_mul_of_pos_right hn2 (Nat.two_pow_pos d)
      omega
    have := (Nat.pow_lt_pow_iff_right (a := 2) (by omega)).1 h2
    omega
  have g2 : n.log2 + d ≤ 1200 := by
    have h2 : 2 ^ (n.log2 + d) ≤ 2 ^ 1200 := by
      rw [Nat.pow_add]
      have a := Nat.mul_le_mul_right (2 ^ d) hn1
      omega
    exact (Nat.pow_le_pow_iff_right (a := 2) (by omega)).1 h2
  have g3 : 1074 ≤ m.log2 + e := by
    have h2 : 2 ^ 1074 < 2 ^ (m.log2 + 1 + e) := by
      refine Nat.lt_of_le_of_lt hX ?_
      rw [Nat.pow_add]
      exact Nat.mul_lt_mul_of_pos_right hm2 (Nat.two_pow_pos _)
    have := (Nat.pow_lt_pow_iff_right (a := 2) (by omega)).1 h2
    omega
  have k1 : e ≤ d + (54 + n.log2 - m.log2) := by omega
  have k2 : d + (54 + n.log2 - m.log2) + 1 ≤ e + 1074 + 54 := by omega
  have k3 : n.log2 + 54 = m.log2 + (54 + n.log2 - m.log2) := by omega
  generalize 54 + n.log2 - m.log2 = more at *
  have hq1 := (quot_spec (m * 2 ^ more) n (2 ^ (d + more - e)) hn).1 (by
      have h4 : m * 2 ^ more * 2 ^ e ≤ 2 ^ (d + more - e) * n * 2 ^ e := by
        rw [pw3 e d more n k1, Nat.mul_right_comm, Nat.mul_comm (2 ^ more)]
        exact Nat.mul_le_mul_right _ hXY
      exact Nat.le_of_mul_le_mul_right h4 (Nat.two_pow_pos _))
  have hq2 := (quot_spec (m * 2 ^ more) n (2 ^ 53) hn).2 (by
      have a : 2 ^ 53 * n ≤ 2 ^ 53 * 2 ^ (n.log2 + 1) := Nat.mul_le_mul_left _ (Nat.le_of_lt hn2)
      have b : 2 ^ 53 * 2 ^ (n.log2 + 1) = 2 ^ m.log2 * 2 ^ more := by
        rw [← Nat.pow_add, ← Nat.pow_add, ← k3]; congr 1; omega
      have c := Nat.mul_le_mul_right (2 ^ more) hm1
      omega)
  generalize 2 * (m * 2 ^ more / n) + (m * 2 ^ more % n != 0).toNat = M at *
  constructor
  · have hz : sv 1 = 1 := by decide +kernel
    have := (hR.2 1 (by decide +kernel)).2 (by
      rw [hz, Int.one_mul, ← two_pow_cast]
      refine Int.ofNat_le.2 ?_
      refine Nat.le_trans ?_ (Nat.mul_le_mul_right _ hq2)
      rw [pw4 e 1074 53]
      exact Nat.pow_le_pow_right (by omega) k2)
    omega
  · have := (hR.2 4607182418800017408 (fin_nn fin_one)).1 (by
      rw [sv_one, ← two_pow_cast, ← two_pow_cast]
      refine Int.ofNat_le.2 ?_
      refine Nat.le_trans (Nat.mul_le_mul_right _ hq1) ?_
      have := pw2 (d + more - e) e 1074
      rw [show d + more - e + e + 1 = d + more + 1 from by omega] at this
      exact Nat.le_of_eq this)
    rw [sv_one] at this
    exact this

/-- a number over an infinity: nought -/
theorem div_inf {x y : Nat} (hx : fin x = true) (hy : nn y = true) (fy : fin y = false) : ∃ r, double.div x y = some r ∧ nn r = true ∧ sv r = 0 := by
  obtain ⟨m, e, r1, u1, hm⟩ := read_fin hx
  obtain ⟨r2, _⟩ := read_inf hy fy
  unfold Format.div
  rw [r1, r2]
  refine ⟨_, rfl, ?_⟩
  show nn (double.nearest (ngv x ^^ ngv y) 0 0) = true ∧ sv (double.nearest (ngv x ^^ ngv y) 0 0) = 0
  have : double.nearest (ngv x ^^ ngv y) 0 0 = double.word (ngv x ^^ ngv y) 0 := rfl
  rw [this, nn_word _ (by omega), sv_word _ (by omega), U_zero]
  cases (ngv x ^^ ngv y) <;> simp [sg]

/-! ### sums are monotone -/
theorem cut_even (neg : Bool) (n d : Nat) :
    2 * (Toward.even.cut neg n d * 2 ^ d) ≤ 2 * n + 2 ^ d ∧ 2 * n ≤ 2 * (Toward.even.cut neg n d * 2 ^ d) + 2 ^ d ∧
    (2 * n + 2 ^ d = 2 * (Toward.even.cut neg n d * 2 ^ d) → Toward.even.cut neg n d % 2 = 0) ∧
    (2 * n = 2 * (Toward.even.cut neg n d * 2 ^ d) + 2 ^ d → Toward.even.cut neg n d % 2 = 0) := by
  unfold Toward.cut
  simp only [Nat.shiftLeft_eq, Nat.one_mul]
  by_cases hd : d ≤ n.log2 + 2
  · rw [Nat.min_eq_left hd]
    have hp : 0 < 2 ^ d := Nat.two_pow_pos _
    generalize 2 ^ d = g at *
    have hm := Nat.div_add_mod n g
    have hr := Nat.mod_lt n hp
    generalize n / g = q at *
    generalize n % g = s at *
    have e1 : (q + 1) * g = g * q + g := by rw [Nat.add_mul, Nat.mul_comm]; omega
    by_cases h1 : g < 2 * s
    · have hb : (decide (g < 2 * s) || g == 2 * s && q % 2 == 1).toNat = 1 := by simp [h1]
      rw [hb, e1]
      refine ⟨by omega, by omega, by omega, by omega⟩
    · by_cases h2 : g = 2 * s
      · by_cases h3 : q % 2 = 1
        · have hb : (decide (g < 2 * s) || g == 2 * s && q % 2 == 1).toNat = 1 := by simp [h2, h3]
          rw [hb, e1]
          refine ⟨by omega, by omega, by omega, by omega⟩
        · have hb : (decide (g < 2 * s) || g == 2 * s && q % 2 == 1).toNat = 0 := by simp [h2]; omega
          rw [hb, Nat.add_zero, Nat.mul_comm q g]
          refine ⟨by omega, by omega, by omega, by omega⟩
      · have hb : (decide (g < 2 * s) || g == 2 * s && q % 2 == 1).toNat = 0 := by simp [h2]; omega
        rw [hb, Nat.add_zero, Nat.mul_comm q g]
        refine ⟨by omega, by omega, by omega, by omega⟩
  · rw [Nat.min_eq_right (by omega)]
    have hl : n < 2 ^ (n.log2 + 1) := Nat.lt_log2_self
    have e2 : 2 ^ (n.log2 + 2) = 2 * 2 ^ (n.log2 + 1) := by rw [show n.log2 + 2 = (n.log2 + 1) + 1 from rfl, Nat.pow_succ]; omega
    have h1 : 2 ^ (n.log2 + 2) ≤ 2 ^ d := Nat.pow_le_pow_right (by omega) (by omega)
    rw [e2] at h1 ⊢
    generalize 2 ^ (n.log2 + 1) = g at *
    have hq : n / (2 * g) = 0 := Nat.div_eq_of_lt (by omega)
    have hr : n % (2 * g) = n := Nat.mod_eq_of_lt (by omega)
    rw [hq, hr]
    have : (decide (2 * g < 2 * n) || (2 * g == 2 * n) && 0 % 2 == 1).toNat = 0 := by
      simp; omega
    simp only [this, Nat.add_zero, Nat.zero_mul, Nat.mul_zero]
    refine ⟨by omega, by omega, by omega, by omega⟩

/-- what rounding a whole number V of units comes to: k of 2^e units -/
def Fct (V e k : Nat) : Prop := V < 2 ^ (53 + e) ∧ (0 < e → 2 ^ (52 + e) ≤ V) ∧ k ≤ 9007199254740992 ∧ (0 < e → 4503599627370496 ≤ k) ∧
  2 * (k * 2 ^ e) ≤ 2 * V + 2 ^ e ∧ 2 * V ≤ 2 * (k * 2 ^ e) + 2 ^ e ∧ (2 * V + 2 ^ e = 2 * (k * 2 ^ e) → k % 2 = 0) ∧ (2 * V = 2 * (k * 2 ^ e) + 2 ^ e → k % 2 = 0)

set_option maxHeartbeats 1000000 in
theorem nearest_fct (neg : Bool) (mag : Nat) (place : Int) (P : Nat) (hp : place = (P : Int) - 1074) :
    ∃ e k, double.nearest neg mag place = double.word neg (min (e * 4503599627370496 + k) 9218868437227405312) ∧ Fct (mag * 2 ^ P) e k := by
  unfold Format.nearest
  by_cases h0 : mag = 0
  · subst h0
    exact ⟨0, 0, by simp, by unfold Fct; simp⟩
  · rw [if_neg h0]
    simp only [dbl_fr, dbl_lp, dbl_bi, dbl_inf, Nat.shiftLeft_eq]
    have hL1 : 2 ^ mag.log2 ≤ mag := Nat.log2_self_le h0
    have hL2 : mag < 2 ^ (mag.log2 + 1) := Nat.lt_log2_self
    generalize mag.log2 = L at *
    obtain ⟨e, he⟩ : ∃ e : Nat, max (place + (L : Int) - (52 : Nat)) (-1074) = (e : Int) - 1074 := ⟨(max (place + (L : Int) - (52 : Nat)) (-1074) + 1074).toNat, by omega⟩
    rw [he]
    obtain ⟨u, hu⟩ : ∃ u, (place - ((e : Int) - 1074)).toNat = u := ⟨_, rfl⟩
    obtain ⟨d, hd⟩ : ∃ d, (((e : Int) - 1074) - place).toNat = d := ⟨_, rfl⟩
    rw [hu, hd]
    have hid : P + d = e + u := by omega
    have hor : d = 0 ∨ u = 0 := by omega
    have he1 : P + L ≤ 52 + e := by omega
    have he2 : 0 < e → P + L = 52 + e := by omega
    have hcut := fun X => cut_spec neg (mag * 2 ^ u) d X
    have hev := cut_even neg (mag * 2 ^ u) d
    generalize Toward.even.cut neg (mag * 2 ^ u) d = k at *
    have hee : ((e : Int) - 1074 - -1074).toNat = e := by omega
    rw [hee]
    clear hu hd he hee hp
    refine ⟨e, k, rfl, ?_⟩
    have hV : mag * 2 ^ P < 2 ^ (53 + e) := by
      refine Nat.lt_of_lt_of_le (Nat.mul_lt_mul_of_pos_right hL2 (Nat.two_pow_pos _)) ?_
      rw [← Nat.pow_add]
      exact Nat.pow_le_pow_right (by omega) (by omega)
    have hV2 : 0 < e → 2 ^ (52 + e) ≤ mag * 2 ^ P := by
      intro h
      refine Nat.le_trans ?_ (Nat.mul_le_mul_right _ hL1)
      rw [← Nat.pow_add]
      exact Nat.pow_le_pow_right (by omega) (by have := he2 h; omega)
    rcases hor with rfl | rfl
    · -- nothing is dropped
      have hk : k = mag * 2 ^ u := by
        have a := (hcut (mag * 2 ^ u)).1 (by simp)
        have b := (hcut (mag * 2 ^ u)).2 (by simp)
        omega
      have hke : k * 2 ^ e = mag * 2 ^ P := by
        rw [hk, Nat.mul_assoc, ← Nat.pow_add]; congr 2; omega
      have hpos := Nat.two_pow_pos e
      refine ⟨hV, hV2, ?_, ?_, by omega, by omega, by omega, by omega⟩
      · have : k * 2 ^ e < 2 ^ 53 * 2 ^ e := by rw [hke, ← Nat.pow_add]; exact hV
        have := Nat.lt_of_mul_lt_mul_right this
        rw [p53] at this; omega
      · intro h
        have : 2 ^ 52 * 2 ^ e ≤ k * 2 ^ e := by rw [hke, ← Nat.pow_add]; exact hV2 h
        have := Nat.le_of_mul_le_mul_right this hpos
        rw [p52] at this; omega
    · obtain rfl : e = P + d := by omega
      simp only [Nat.pow_zero, Nat.mul_one] at hcut hev
      have hke : k * 2 ^ (P + d) = k * 2 ^ d * 2 ^ P := by rw [Nat.mul_assoc, ← Nat.pow_add]; congr 2; omega
      have hT : 2 ^ (P + d) = 2 ^ d * 2 ^ P := by rw [← Nat.pow_add]; congr 1; omega
      have hpos := Nat.two_pow_pos P
      obtain ⟨v1, v2, v3, v4⟩ := hev
      refine ⟨hV, hV2, ?_, ?_, ?_, ?_, ?_, ?_⟩
      · have := (hcut (2 ^ 53)).1 (by
          have : mag * 2 ^ P < 2 ^ 53 * 2 ^ d * 2 ^ P := by rw [← Nat.pow_add, ← Nat.pow_add, Nat.add_assoc, Nat.add_comm d P]; exact hV
          exact Nat.le_of_lt (Nat.lt_of_mul_lt_mul_right this))
        rw [p53] at this; exact this
      · intro h
        have := (hcut (2 ^ 52)).2 (by
          have : 2 ^ 52 * 2 ^ d * 2 ^ P ≤ mag * 2 ^ P := by rw [← Nat.pow_add, ← Nat.pow_add, Nat.add_assoc, Nat.add_comm d P]; exact hV2 h
          exact Nat.le_of_mul_le_mul_right this hpos)
        rw [p52] at this; exact this
      all_goals rw [hke, hT]
      · have := Nat.mul_le_mul_right (2 ^ P) v1
        rw [Nat.add_mul, Nat.mul_assoc 2, Nat.mul_assoc 2] at this; exact this
      · have := Nat.mul_le_mul_right (2 ^ P) v2
        rw [Nat.add_mul, Nat.mul_assoc 2, Nat.mul_assoc 2] at this; exact this
      · intro h
        refine v3 (Nat.eq_of_mul_eq_mul_right hpos ?_)
        rw [Nat.add_mul, Nat.mul_assoc 2, Nat.mul_assoc 2]; exact h
      · intro h
        refine v4 (Nat.eq_of_mul_eq_mul_right hpos ?_)
        rw [Nat.add_mul, Nat.mul_assoc 2, Nat.mul_assoc 2]; exact h

theorem fct_mono {V1 e1 k1 V2 e2 k2 : Nat} (h1 : Fct V1 e1 k1) (h2 : Fct V2 e2 k2) (h : V1 ≤ V2) : e1 * 4503599627370496 + k1 ≤ e2 * 4503599627370496 + k2 := by
  obtain ⟨a1, a2, a3, a4, a5, a6, a7, a8⟩ := h1
  obtain ⟨b1, b2, b3, b4, b5, b6, b7, b8⟩ := h2
  have u1 : U (e1 * 4503599627370496 + k1) = k1 * 2 ^ e1 := U_form e1 k1 (by
    by_cases h : 0 < e1
    · exact .inl ⟨a4 h, a3⟩
    · exact .inr ⟨by omega, a3⟩)
  have u2 : U (e2 * 4503599627370496 + k2) = k2 * 2 ^ e2 := U_form e2 k2 (by
    by_cases h : 0 < e2
    · exact .inl ⟨b4 h, b3⟩
    · exact .inr ⟨by omega, b3⟩)
  refine U_le_of ?_
  rw [u1, u2]
  rcases Nat.lt_trichotomy e1 e2 with he | he | he
  · have s1 : k1 * 2 ^ e1 ≤ 2 ^ 53 * 2 ^ e1 := Nat.mul_le_mul_right _ (by rw [p53]; exact a3)
    have s2 : 2 ^ 52 * 2 ^ e2 ≤ k2 * 2 ^ e2 := Nat.mul_le_mul_right _ (by rw [p52]; exact b4 (by omega))
    have s3 : 2 ^ 53 * 2 ^ e1 ≤ 2 ^ 52 * 2 ^ e2 := by rw [← Nat.pow_add, ← Nat.pow_add]; exact Nat.pow_le_pow_right (by omega) (by omega)
    omega
  · subst he
    by_cases hk : k1 ≤ k2
    · exact Nat.mul_le_mul_right _ hk
    · have s1 : (k2 + 1) * 2 ^ e1 ≤ k1 * 2 ^ e1 := Nat.mul_le_mul_right _ (by omega)
      have hpos := Nat.two_pow_pos e1
      rw [Nat.add_mul, Nat.one_mul] at s1
      have p1 := a7 (by omega)
      have p2 := b8 (by omega)
      have s2 : k1 * 2 ^ e1 = (k2 + 1) * 2 ^ e1 := by rw [Nat.add_mul, Nat.one_mul]; omega
      have s3 := Nat.eq_of_mul_eq_mul_right hpos s2
      omega
  · have s1 := a2 (by omega)
    have s2 : 2 ^ (53 + e2) ≤ 2 ^ (52 + e1) := Nat.pow_le_pow_right (by omega) (by omega)
    omega

/-- r is what the whole number V of units rounds to -/
def Rn (V : Int) (r : Nat) : Prop := Rnd V 0 r ∧ ∃ e k, Fct V.natAbs e k ∧ sv r = sg (decide (V < 0)) (U (min (e * 4503599627370496 + k) 9218868437227405312))

theorem rn_mono {V1 V2 : Int} {r1 r2 : Nat} (h1 : Rn V1 r1) (h2 : Rn V2 r2) (h : V1 ≤ V2) : sv r1 ≤ sv r2 := by
  obtain ⟨c1, e1, k1, f1, s1⟩ := h1
  obtain ⟨c2, e2, k2, f2, s2⟩ := h2
  by_cases n1 : V1 < 0
  · by_cases n2 : V2 < 0
    · have := U_le (r := min (e2 * 4503599627370496 + k2) 9218868437227405312) (s := min (e1 * 4503599627370496 + k1) 9218868437227405312) (by
        have := fct_mono f2 f1 (by omega)
        exact Nat.le_min.2 ⟨Nat.le_trans (Nat.min_le_left ..) this, Nat.min_le_right ..⟩)
      rw [s1, s2]; simp only [n1, n2, decide_true, sg, if_true]; omega
    · have := rnd_le0 c1 (by omega)
      have := rnd_ge0 c2 (by omega)
      omega
  · have n2 : ¬ V2 < 0 := by omega
    have := U_le (r := min (e1 * 4503599627370496 + k1) 9218868437227405312) (s := min (e2 * 4503599627370496 + k2) 9218868437227405312) (by
      have := fct_mono f1 f2 (by omega)
      exact Nat.le_min.2 ⟨Nat.le_trans (Nat.min_le_left ..) this, Nat.min_le_right ..⟩)
    rw [s1, s2]; simp only [n1, n2, decide_false, sg, Bool.false_eq_true, if_false]; omega

theorem write_rn (neg : Bool) (mag : Nat) (place : Int) (P : Nat) (hp : place = (P : Int) - 1074) (V : Int) (hV : sg neg (mag * 2 ^ P) = V) :
    Rn V (double.write (.number neg mag place)) := by
  have h1 := write_rnd neg mag place P 0 (by omega)
  rw [hV] at h1
  refine ⟨h1, ?_⟩
  obtain ⟨e, k, hn, hf⟩ := nearest_fct neg mag place P hp
  have hab : V.natAbs = mag * 2 ^ P := by rw [← hV]; cases neg <;> simp only [sg, Bool.false_eq_true, if_false, if_true] <;> omega
  refine ⟨e, k, by rw [hab]; exact hf, ?_⟩
  show sv (double.nearest neg mag place) = _
  rw [hn, sv_word _ (Nat.min_le_right ..)]
  generalize hW : mag * 2 ^ P = W at *
  by_cases h0 : W = 0
  · subst h0
    have hz : sv (double.nearest neg mag place) = 0 := by
      have hV0 : V = 0 := by omega
      rw [hV0] at h1
      have a : 0 ≤ sv (double.nearest neg mag place) := rnd_ge0 h1 (by omega)
      have b : sv (double.nearest neg mag place) ≤ 0 := rnd_le0 h1 (by omega)
      omega
    rw [hn, sv_word _ (Nat.min_le_right ..)] at hz
    generalize U (min (e * 4503599627370496 + k) 9218868437227405312) = u at *
    have hu : u = 0 := by cases neg <;> simp only [sg, Bool.false_eq_true, if_false, if_true] at hz <;> omega
    subst hu
    cases neg <;> cases (decide (V < 0)) <;> simp [sg]
  · have : decide (V < 0) = neg := by
      cases neg <;> simp only [sg, Bool.false_eq_true, if_false, if_true] at hV <;> simp <;> omega
    rw [this]

theorem sum_rn (s t : Bool) (m n e d : Nat) : ∃ D, Datum.sum (.number s m (-1074 + (e : Int))) (.number t n (-1074 + (d : Int))) = some D ∧ Rn (sg s (m * 2 ^ e) + sg t (n * 2 ^ d)) (double.write D) := by
  simp only [Datum.sum]
  refine ⟨_, rfl, ?_⟩
  rw [signed_eq, signed_eq]
  have hb : min (-1074 + (e : Int)) (-1074 + (d : Int)) = -1074 + ((min e d : Nat) : Int) := by omega
  rw [hb]
  have e1 : (-1074 + (e : Int) - (-1074 + ((min e d : Nat) : Int))).toNat = e - min e d := by omega
  have e2 : (-1074 + (d : Int) - (-1074 + ((min e d : Nat) : Int))).toNat = d - min e d := by omega
  rw [e1, e2]
  have h1 : m * 2 ^ e = m * 2 ^ (e - min e d) * 2 ^ min e d := by rw [Nat.mul_assoc, ← Nat.pow_add]; congr 2; omega
  have h2 : n * 2 ^ d = n * 2 ^ (d - min e d) * 2 ^ min e d := by rw [Nat.mul_assoc, ← Nat.pow_add]; congr 2; omega
  rw [h1, h2, sg_mul _ _ (2 ^ min e d), sg_mul _ _ (2 ^ min e d), ← Int.add_mul]
  generalize sg s (m * 2 ^ (e - min e d)) + sg t (n * 2 ^ (d - min e d)) = T
  refine write_rn (if T = 0 then s && t else decide (T < 0)) T.natAbs (-1074 + ((min e d : Nat) : Int)) (min e d) (by omega) _ ?_
  by_cases h0 : T = 0
  · subst h0; simp [sg]
  · rw [if_neg h0, sg_mul, sg_natAbs]

theorem add_rn {x y : Nat} (hx : fin x = true) (hy : fin y = true) : ∃ r, double.add x y = some r ∧ Rn (sv x + sv y) r := by
  obtain ⟨m, e, r1, u1, _⟩ := read_fin hx
  obtain ⟨n, d, r2, u2, _⟩ := read_fin hy
  obtain ⟨D, h1, h2⟩ := sum_rn (ngv x) (ngv y) m n e d
  unfold Format.add
  rw [r1, r2, h1, sv_fin u1, sv_fin u2]
  exact ⟨_, rfl, h2⟩

end Go.Proofs.Qxb6602616a.Fl
