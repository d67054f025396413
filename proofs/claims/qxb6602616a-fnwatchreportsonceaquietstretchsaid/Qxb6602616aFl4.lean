/- Plain laws of the double format, part 4: what an operation of Go gives ('FR': the bits, or some NaN), and the laws that the program's mean needs. No walk. -/
import Derived.Test.Qxb6602616aFl3
import Derived.Laws.FloatArith
namespace Go.Proofs.Qxb6602616a.Fl
open Ieee

/-- what a float64 operation gives: the bits that IEEE fixes, or some NaN -/
def FR (op : BinOp) (x y r : Nat) : Prop := (∃ r', floatBits op .f64 x y = some r' ∧ r = r') ∨ (floatBits op .f64 x y = none ∧ nn r = false)

theorem fr_some {op : BinOp} {x y r r' : Nat} (h : FR op x y r) (h2 : floatBits op .f64 x y = some r') : r = r' := by
  rcases h with ⟨r'', h3, h4⟩ | ⟨h3, _⟩
  · rw [h2] at h3; cases h3; exact h4
  · rw [h2] at h3; cases h3
theorem fr_none {op : BinOp} {x y r : Nat} (h : FR op x y r) (h2 : floatBits op .f64 x y = none) : nn r = false := by
  rcases h with ⟨r'', h3, h4⟩ | ⟨h3, h4⟩
  · rw [h2] at h3; cases h3
  · exact h4

theorem fb_add (x y : Nat) : floatBits .add .f64 x y = double.add x y := rfl
theorem fb_sub (x y : Nat) : floatBits .sub .f64 x y = double.sub x y := rfl
theorem fb_mul (x y : Nat) : floatBits .mul .f64 x y = double.mul x y := rfl
theorem fb_quo (x y : Nat) : floatBits .quo .f64 x y = double.div x y := rfl

theorem add_nan {x y : Nat} (h : nn x = false ∨ nn y = false) : double.add x y = none := by
  unfold Format.add
  rcases h with h | h <;> obtain ⟨f, hf⟩ := read_nan h <;> rw [hf]
  · rfl
  · cases double.read x <;> rfl
theorem mul_nan {x y : Nat} (h : nn x = false ∨ nn y = false) : double.mul x y = none := by
  unfold Format.mul
  rcases h with h | h <;> obtain ⟨f, hf⟩ := read_nan h <;> rw [hf]
  · rfl
  · cases double.read x <;> rfl
theorem sub_self_inf {x : Nat} (h : fin x = false) : double.sub x x = none := by
  unfold Format.sub
  cases hn : nn x
  · obtain ⟨f, hf⟩ := read_nan hn
    rw [hf]; rfl
  · obtain ⟨hf, _⟩ := read_inf hn h
    rw [hf]
    cases ngv x <;> rfl

theorem sv_abs (x : Nat) : (sv x).natAbs = U (rung x) := by
  unfold sv sg; cases ngv x <;> simp

theorem fin_iff {x : Nat} (hn : nn x = true) : fin x = true ↔ (sv x).natAbs < U 9218868437227405312 := by
  rw [sv_abs]
  constructor
  · exact U_inf_lt
  · intro h
    simp only [fin, nn, decide_eq_true_eq] at *
    have : rung x ≠ 9218868437227405312 := by intro e; rw [e] at h; omega
    omega

theorem fin_between {a b p : Nat} (hp : nn p = true) (ha : fin a = true) (hb : fin b = true) (h1 : sv a ≤ sv p) (h2 : sv p ≤ sv b) : fin p = true := by
  have a1 := (fin_iff (fin_nn ha)).1 ha
  have b1 := (fin_iff (fin_nn hb)).1 hb
  refine (fin_iff hp).2 ?_
  omega

theorem inf_of_sv {a p : Nat} (hp : nn p = true) (ha : nn a = true) (fa : fin a = false) (h : sv p = sv a) : fin p = false := by
  cases h2 : fin p
  · rfl
  · have := (fin_iff hp).1 h2
    rw [h, ← fin_iff ha] at this
    rw [this] at fa; cases fa

def opp (x : Nat) : Nat := double.word (!ngv x) (rung x)
theorem opp_sv {x : Nat} (h : nn x = true) : sv (opp x) = - sv x ∧ nn (opp x) = true := by
  have h1 : rung x ≤ 9218868437227405312 := by simpa [nn] using h
  unfold opp
  exact ⟨by rw [sv_word _ h1, sg_not]; rfl, nn_word _ h1⟩
theorem opp_fin {x : Nat} (h : fin x = true) : fin (opp x) = true := by
  have h1 : rung x < 9218868437227405312 := by simpa [fin] using h
  unfold opp fin
  rw [rung_word _ (by omega)]; simpa using h1

theorem rnd_le {V : Int} {K r z : Nat} (h : Rnd V K r) (hz : nn z = true) (hv : V ≤ sv z * (2 : Int) ^ K) : sv r ≤ sv z := (h.2 z hz).1 hv
theorem rnd_ge {V : Int} {K r z : Nat} (h : Rnd V K r) (hz : nn z = true) (hv : sv z * (2 : Int) ^ K ≤ V) : sv z ≤ sv r := (h.2 z hz).2 hv
theorem rnd0_le {V : Int} {r z : Nat} (h : Rnd V 0 r) (hz : nn z = true) (hv : V ≤ sv z) : sv r ≤ sv z := (h.2 z hz).1 (by simpa using hv)
theorem rnd0_ge {V : Int} {r z : Nat} (h : Rnd V 0 r) (hz : nn z = true) (hv : sv z ≤ V) : sv z ≤ sv r := (h.2 z hz).2 (by simpa using hv)

/-! ### the weight -/
theorem mul_share {kp wt p : Nat} (hk : fin kp = true) (k0 : 0 < sv kp) (k1 : sv kp ≤ (2 : Int) ^ 1074) (hw : nn wt = true) (w0 : 0 ≤ sv wt) (h : FR .mul kp wt p) :
    nn p = true ∧ 0 ≤ sv p ∧ sv p ≤ sv wt ∧ fin p = fin wt ∧ (fin wt = false → sv p = sv wt) := by
  cases fw : fin wt
  · obtain ⟨r, h1, h2, h3⟩ := mul_inf hk k0 hw fw
    obtain rfl := fr_some h (by rw [fb_mul]; exact h1)
    exact ⟨h2, by omega, by omega, inf_of_sv h2 hw fw h3, fun _ => h3⟩
  · obtain ⟨r, h1, h2⟩ := mul_fin hk fw
    obtain rfl := fr_some h (by rw [fb_mul]; exact h1)
    have a1 := rnd_ge0 h2 (Int.mul_nonneg (by omega) w0)
    have a2 := rnd_le h2 hw (by rw [Int.mul_comm (sv wt)]; exact Int.mul_le_mul_of_nonneg_right k1 w0)
    exact ⟨h2.1, a1, a2, fin_between (a := 0) h2.1 (by decide +kernel) fw (by rw [sv_zero]; exact a1) a2, fun h => by cases h⟩

theorem one_le_inf : (2 : Int) ^ 1074 ≤ (U 9218868437227405312 : Int) := by
  have := (fin_iff (fin_nn fin_one)).1 fin_one
  rw [sv_one] at this
  have h0 := two_pow_ipos 1074
  omega

theorem sv_inf_pos {x : Nat} (h : nn x = true) (f : fin x = false) (h0 : 0 ≤ sv x) : (2 : Int) ^ 1074 ≤ sv x := by
  have h1 := one_le_inf
  have h2 := sv_abs x
  rw [(read_inf h f).2] at h2
  omega

/-- ((keep * w) rounded + 1) rounded lies in [1, w + 1 rounded] -/
theorem weight_law {kp wt p wt' : Nat} (hk : fin kp = true) (k0 : 0 < sv kp) (k1 : sv kp ≤ (2 : Int) ^ 1074) (hw : nn wt = true) (w0 : 0 ≤ sv wt) (h : FR .mul kp wt p) (h2 : FR .add p 4607182418800017408 wt') :
    nn wt' = true ∧ (2 : Int) ^ 1074 ≤ sv wt' ∧ ∀ s, FR .add wt 4607182418800017408 s → nn s = true ∧ sv wt' ≤ sv s := by
  obtain ⟨p1, p2, p3, p4, p5⟩ := mul_share hk k0 k1 hw w0 h
  cases fw : fin wt
  · rw [fw] at p4
    obtain ⟨r, a1, a2, a3⟩ := add_inf p1 p4 fin_one
    obtain rfl := fr_some h2 (by rw [fb_add]; exact a1)
    have e := p5 fw
    refine ⟨a2, by rw [a3]; exact sv_inf_pos p1 p4 p2, fun s hs => ?_⟩
    obtain ⟨r, b1, b2, b3⟩ := add_inf hw fw fin_one
    obtain rfl := fr_some hs (by rw [fb_add]; exact b1)
    exact ⟨b2, by omega⟩
  · rw [fw] at p4
    obtain ⟨r, a1, a2⟩ := add_rn p4 fin_one
    obtain rfl := fr_some h2 (by rw [fb_add]; exact a1)
    refine ⟨a2.1.1, ?_, fun s hs => ?_⟩
    · have := rnd0_ge a2.1 (fin_nn fin_one) (by omega)
      rw [sv_one] at this; exact this
    · obtain ⟨r, b1, b2⟩ := add_rn fw fin_one
      obtain rfl := fr_some hs (by rw [fb_add]; exact b1)
      exact ⟨b2.1.1, rn_mono a2 b2 (by omega)⟩

/-- a and b are one number, or both are NaN -/
def Same (a b : Nat) : Prop := (nn a = true ∧ nn b = true ∧ sv a = sv b) ∨ (nn a = false ∧ nn b = false)

/-- ((1 * w) rounded + 1) rounded is w + 1 rounded -/
theorem weight_one {wt p wt' s : Nat} (h : FR .mul 4607182418800017408 wt p) (h2 : FR .add p 4607182418800017408 wt') (hs : FR .add wt 4607182418800017408 s) : Same wt' s := by
  cases hw : nn wt
  · have a := fr_none h (by rw [fb_mul]; exact mul_nan (.inr hw))
    have b := fr_none h2 (by rw [fb_add]; exact add_nan (.inl a))
    have c := fr_none hs (by rw [fb_add]; exact add_nan (.inl hw))
    exact .inr ⟨b, c⟩
  · cases fw : fin wt
    · obtain ⟨r, h1, h3, h4⟩ := mul_inf fin_one (by rw [sv_one]; exact two_pow_ipos _) hw fw
      obtain rfl := fr_some h (by rw [fb_mul]; exact h1)
      obtain ⟨r, a1, a2, a3⟩ := add_inf h3 (inf_of_sv h3 hw fw h4) fin_one
      obtain rfl := fr_some h2 (by rw [fb_add]; exact a1)
      obtain ⟨r, b1, b2, b3⟩ := add_inf hw fw fin_one
      obtain rfl := fr_some hs (by rw [fb_add]; exact b1)
      exact .inl ⟨a2, b2, by omega⟩
    · obtain ⟨r, h1, h3⟩ := mul_fin fin_one fw
      obtain rfl := fr_some h (by rw [fb_mul]; exact h1)
      rw [sv_one] at h3
      have c1 := rnd_le h3 hw (by rw [Int.mul_comm]; exact Int.le_refl _)
      have c2 := rnd_ge h3 hw (by rw [Int.mul_comm]; exact Int.le_refl _)
      have fp := fin_between h3.1 fw fw c2 c1
      obtain ⟨r, a1, a2⟩ := add_rn fp fin_one
      obtain rfl := fr_some h2 (by rw [fb_add]; exact a1)
      obtain ⟨r, b1, b2⟩ := add_rn fw fin_one
      obtain rfl := fr_some hs (by rw [fb_add]; exact b1)
      have d1 := rn_mono a2 b2 (by omega)
      have d2 := rn_mono b2 a2 (by omega)
      exact .inl ⟨a2.1.1, b2.1.1, by omega⟩

/-! ### the value -/
theorem quo_ge_one {d wt q : Nat} (hd : fin d = true) (hw : nn wt = true) (w1 : (2 : Int) ^ 1074 ≤ sv wt) (h : FR .quo d wt q) :
    fin q = true ∧ (0 ≤ sv d → 0 ≤ sv q ∧ sv q ≤ sv d) ∧ (sv d ≤ 0 → sv d ≤ sv q ∧ sv q ≤ 0) := by
  cases fw : fin wt
  · obtain ⟨r, h1, h2, h3⟩ := div_inf hd hw fw
    obtain rfl := fr_some h (by rw [fb_quo]; exact h1)
    refine ⟨fin_between (a := 0) (b := 0) h2 (by decide +kernel) (by decide +kernel) (by rw [sv_zero]; omega) (by rw [sv_zero]; omega), by omega, by omega⟩
  · obtain ⟨r, h1, h2, h3, h4⟩ := div_bound hd fw w1
    obtain rfl := fr_some h (by rw [fb_quo]; exact h1)
    refine ⟨?_, h3, h4⟩
    by_cases h0 : 0 ≤ sv d
    · have := h3 h0
      exact fin_between (a := 0) h2 (by decide +kernel) hd (by rw [sv_zero]; omega) (by omega)
    · have := h4 (by omega)
      exact fin_between (b := 0) h2 hd (by decide +kernel) (by omega) (by rw [sv_zero]; omega)

/-- a value of nought or more, moved towards nought: in [0, its old value] -/
theorem value_falls {x v d wt q v' : Nat} (hx : fin x = true) (x0 : sv x = 0) (hv : fin v = true) (v0 : 0 ≤ sv v) (hw : nn wt = true) (w1 : (2 : Int) ^ 1074 ≤ sv wt)
    (h1 : FR .sub x v d) (h2 : FR .quo d wt q) (h3 : FR .add v q v') : nn v' = true ∧ 0 ≤ sv v' ∧ sv v' ≤ sv v := by
  obtain ⟨r, a1, a2⟩ := sub_fin hx hv
  obtain rfl := fr_some h1 (by rw [fb_sub]; exact a1)
  rw [x0] at a2
  have o := opp_sv (fin_nn hv)
  have b1 := rnd_le0 a2 (by omega)
  have b2 := rnd0_ge a2 o.2 (by omega)
  have fd := fin_between (b := 0) a2.1 (opp_fin hv) (by decide +kernel) b2 (by rw [sv_zero]; omega)
  obtain ⟨fq, _, c⟩ := quo_ge_one fd hw w1 h2
  have c := c b1
  obtain ⟨r, e1, e2⟩ := add_fin hv fq
  obtain rfl := fr_some h3 (by rw [fb_add]; exact e1)
  exact ⟨e2.1, rnd_ge0 e2 (by omega), rnd0_le e2 (fin_nn hv) (by omega)⟩

/-- a value that is the count already stays -/
theorem value_steady {x v d wt q v' : Nat} (hx : fin x = true) (hv : fin v = true) (e0 : sv x = sv v) (hw : nn wt = true) (w1 : (2 : Int) ^ 1074 ≤ sv wt)
    (h1 : FR .sub x v d) (h2 : FR .quo d wt q) (h3 : FR .add v q v') : nn v' = true ∧ sv v' = sv v := by
  obtain ⟨r, a1, a2⟩ := sub_fin hx hv
  obtain rfl := fr_some h1 (by rw [fb_sub]; exact a1)
  have b1 := rnd_le0 a2 (by omega)
  have b2 := rnd_ge0 a2 (by omega)
  have fd := fin_between (a := 0) (b := 0) a2.1 (by decide +kernel) (by decide +kernel) (by rw [sv_zero]; omega) (by rw [sv_zero]; omega)
  obtain ⟨fq, _, c⟩ := quo_ge_one fd hw w1 h2
  have c := c b1
  obtain ⟨r, e1, e2⟩ := add_fin hv fq
  obtain rfl := fr_some h3 (by rw [fb_add]; exact e1)
  have f1 := rnd0_le e2 (fin_nn hv) (by omega)
  have f2 := rnd0_ge e2 (fin_nn hv) (by omega)
  exact ⟨e2.1, by omega⟩

theorem sub_rn {x y : Nat} (hx : fin x = true) (hy : fin y = true) : ∃ r, double.sub x y = some r ∧ Rn (sv x - sv y) r := by
  obtain ⟨m, e, r1, u1, _⟩ := read_fin hx
  obtain ⟨n, d, r2, u2, _⟩ := read_fin hy
  obtain ⟨D, h1, h2⟩ := sum_rn (ngv x) (!ngv y) m n e d
  unfold Format.sub
  rw [r1, r2]
  show ∃ r, ((Datum.number (ngv x) m (-1074 + (e : Int))).sum (.number (!ngv y) n (-1074 + (d : Int)))).map double.write = some r ∧ _
  rw [h1, sv_fin u1, sv_fin u2]
  rw [sg_not, ← Int.sub_eq_add_neg] at h2
  exact ⟨_, rfl, h2⟩

theorem U_inf_val : U 9218868437227405312 = 2 ^ 2098 := by decide +kernel

theorem pow_2045 : (2 : Nat) ^ 2045 = 2 * 2 ^ 2044 := by decide +kernel

theorem fct_low {V e k : Nat} (h : Fct V e k) (hV : V + 2 ^ 2044 < 2 ^ 2098) : k * 2 ^ e < 2 ^ 2098 := by
  obtain ⟨a1, a2, a3, a4, a5, a6, a7, a8⟩ := h
  refine Nat.lt_of_not_le fun u2 => ?_
  have t1 : 2 ^ 2098 ≤ 2 ^ (53 + e) := by
    refine Nat.le_trans u2 ?_
    rw [Nat.pow_add, p53]
    exact Nat.mul_le_mul_right _ a3
  have t2 : 2098 ≤ 53 + e := (Nat.pow_le_pow_iff_right (a := 2) (by omega)).1 t1
  have t3 := a2 (by omega)
  have t4 : 2 ^ (52 + e) < 2 ^ 2098 := Nat.lt_of_le_of_lt t3 (Nat.lt_of_le_of_lt (Nat.le_add_right _ _) hV)
  have t5 : 52 + e < 2098 := (Nat.pow_lt_pow_iff_right (a := 2) (by omega)).1 t4
  obtain rfl : e = 2045 := by omega
  have t6 := pow_2045
  clear t1 t2 t3 t4 t5 a1 a2 a3 a4 a6 a7 a8
  generalize (2 : Nat) ^ 2098 = A at *
  generalize (2 : Nat) ^ 2044 = B at *
  generalize (2 : Nat) ^ 2045 = C at *
  generalize k * C = E at *
  omega

theorem hab0 {V : Int} {r g : Nat} (hs : sv r = sg (decide (V < 0)) (U g)) : (sv r).natAbs = U g := by
  rw [hs]
  generalize U g = u
  unfold sg; cases decide (V < 0) <;> simp

theorem rn_fin0 {V e k r : Nat} (c : nn r = true) (hf : Fct V e k) (hab : (sv r).natAbs = U (min (e * 4503599627370496 + k) 9218868437227405312)) (u0 : k * 2 ^ e < 2 ^ 2098) : fin r = true := by
  refine (fin_iff c).2 ?_
  rw [hab]
  obtain ⟨a1, a2, a3, a4, a5, a6, a7, a8⟩ := hf
  have u1 : U (e * 4503599627370496 + k) = k * 2 ^ e := U_form e k (by
    by_cases h : 0 < e
    · exact .inl ⟨a4 h, a3⟩
    · exact .inr ⟨by omega, a3⟩)
  have u2 := U_le (Nat.min_le_left (e * 4503599627370496 + k) 9218868437227405312)
  rw [u1] at u2
  have u3 : k * 2 ^ e < U 9218868437227405312 := Nat.lt_of_lt_of_eq u0 U_inf_val.symm
  exact Nat.lt_of_le_of_lt u2 u3

/-- below the last midpoint nothing overflows -/
theorem rn_fin {V : Int} {r : Nat} (h : Rn V r) (hV : V.natAbs + 2 ^ 2044 < 2 ^ 2098) : fin r = true := by
  obtain ⟨c, e, k, hf, hs⟩ := h
  exact rn_fin0 c.1 hf (hab0 hs) (fct_low hf hV)

theorem sv_max : sv 9218868437227405311 + (2 : Int) ^ 2045 = (2 : Int) ^ 2098 := by decide +kernel
theorem fin_le_max {x : Nat} (h : fin x = true) : (sv x).natAbs + 2 ^ 2045 ≤ 2 ^ 2098 := by
  rw [sv_abs]
  have h1 : rung x ≤ 9218868437227405311 := by simp only [fin, decide_eq_true_eq] at h; omega
  have h2 := U_le h1
  have h3 : U 9218868437227405311 + 2 ^ 2045 = 2 ^ 2098 := by decide +kernel
  omega

theorem sv_p63 : sv 4890909195324358656 = (2 : Int) ^ 1137 := by decide +kernel
theorem sv_n63 : sv 14114281232179134464 = -((2 : Int) ^ 1137) := by decide +kernel
theorem sv_p64 : sv 4895412794951729152 = (2 : Int) ^ 1138 := by decide +kernel
theorem sv_n64 : sv 14118784831806504960 = -((2 : Int) ^ 1138) := by decide +kernel
theorem sv_min : sv 1 = 1 := by decide +kernel
theorem sv_nmin : sv 9223372036854775809 = -1 := by decide +kernel

/-- a finite value stays finite -/
theorem value_finite {x v d wt q v' : Nat} (hx : fin x = true) (x1 : -((2 : Int) ^ 1137) ≤ sv x) (x2 : sv x ≤ (2 : Int) ^ 1137) (hv : fin v = true) (hw : nn wt = true) (w1 : (2 : Int) ^ 1074 ≤ sv wt)
    (h1 : FR .sub x v d) (h2 : FR .quo d wt q) (h3 : FR .add v q v') : fin v' = true := by
  obtain ⟨r, a1, a2⟩ := sub_rn hx hv
  obtain rfl := fr_some h1 (by rw [fb_sub]; exact a1)
  have m := fin_le_max hv
  have big : (2 : Nat) ^ 1137 + 2 ^ 2044 < 2 ^ 2045 := by decide +kernel
  have fd : fin d = true := by
    refine rn_fin a2 ?_
    have c1 := two_pow_cast 1137
    generalize (2 : Nat) ^ 1137 = P at *
    generalize (2 : Int) ^ 1137 = Q at *
    generalize (2 : Nat) ^ 2044 = A at *
    generalize (2 : Nat) ^ 2045 = B at *
    generalize (2 : Nat) ^ 2098 = C at *
    omega
  obtain ⟨fq, c1, c2⟩ := quo_ge_one fd hw w1 h2
  obtain ⟨r, e1, e2⟩ := add_fin hv fq
  obtain rfl := fr_some h3 (by rw [fb_add]; exact e1)
  have twice : (2 : Int) ^ 1138 = 2 * (2 : Int) ^ 1137 := by rw [Int.pow_succ]; omega
  by_cases hd : 0 ≤ sv d
  · have c := c1 hd
    have lo := rnd0_ge e2 (fin_nn hv) (by omega)
    by_cases v0 : sv v ≤ 0
    · exact fin_between e2.1 hv fq lo (rnd0_le e2 (fin_nn fq) (by omega))
    · have hxv : sv v ≤ sv x := by
        by_cases h : sv v ≤ sv x
        · exact h
        · have := rnd0_le a2.1 (z := 9223372036854775809) (by decide +kernel) (by rw [sv_nmin]; omega)
          rw [sv_nmin] at this; omega
      have d1 := rnd0_le a2.1 (z := 4890909195324358656) (by decide +kernel) (by rw [sv_p63]; omega)
      rw [sv_p63] at d1
      have hi := rnd0_le e2 (z := 4895412794951729152) (by decide +kernel) (by rw [sv_p64]; omega)
      exact fin_between e2.1 hv (by decide +kernel) lo hi
  · have c := c2 (by omega)
    have hi := rnd0_le e2 (fin_nn hv) (by omega)
    by_cases v0 : 0 ≤ sv v
    · exact fin_between e2.1 fq hv (rnd0_ge e2 (fin_nn fq) (by omega)) hi
    · have hxv : sv x ≤ sv v := by
        by_cases h : sv x ≤ sv v
        · exact h
        · have := rnd0_ge a2.1 (z := 1) (by decide +kernel) (by rw [sv_min]; omega)
          rw [sv_min] at this; omega
      have d1 := rnd0_ge a2.1 (z := 14114281232179134464) (by decide +kernel) (by rw [sv_n63]; omega)
      rw [sv_n63] at d1
      have lo := rnd0_ge e2 (z := 14118784831806504960) (by decide +kernel) (by rw [sv_n64]; omega)
      exact fin_between e2.1 (by decide +kernel) hv lo hi

/-! ### integers -/
theorem int_rn (n : Int) : Rn (n * (2 : Int) ^ 1074) (floatOfInt .f64 n) := by
  refine write_rn (decide (n < 0)) n.natAbs 0 1074 (by omega) _ ?_
  rw [sg_mul, sg_natAbs, two_pow_cast 1074]

theorem int_fin {n : Int} (h1 : -9223372036854775808 ≤ n) (h2 : n ≤ 9223372036854775807) :
    fin (floatOfInt .f64 n) = true ∧ -((2 : Int) ^ 1137) ≤ sv (floatOfInt .f64 n) ∧ sv (floatOfInt .f64 n) ≤ (2 : Int) ^ 1137 := by
  have h := int_rn n
  have e : (2 : Int) ^ 1137 = 9223372036854775808 * (2 : Int) ^ 1074 := by decide +kernel
  have hp := two_pow_ipos 1074
  have b1 : -9223372036854775808 * (2 : Int) ^ 1074 ≤ n * (2 : Int) ^ 1074 := Int.mul_le_mul_of_nonneg_right h1 (by omega)
  have b2 : n * (2 : Int) ^ 1074 ≤ 9223372036854775808 * (2 : Int) ^ 1074 := Int.mul_le_mul_of_nonneg_right (by omega) (by omega)
  have a1 := rnd0_ge h.1 (z := 14114281232179134464) (by decide +kernel) (by rw [sv_n63, e]; omega)
  have a2 := rnd0_le h.1 (z := 4890909195324358656) (by decide +kernel) (by rw [sv_p63, e]; omega)
  refine ⟨fin_between h.1.1 (by decide +kernel) (by decide +kernel) a1 a2, ?_, ?_⟩
  · rw [sv_n63] at a1; exact a1
  · rw [sv_p63] at a2; exact a2

theorem int_ge0 {n : Int} (h : 0 ≤ n) : 0 ≤ sv (floatOfInt .f64 n) :=
  rnd_ge0 (int_rn n).1 (Int.mul_nonneg h (by have := two_pow_ipos 1074; omega))
theorem int_ge1 {n : Int} (h : 1 ≤ n) : (2 : Int) ^ 1074 ≤ sv (floatOfInt .f64 n) := by
  have := rnd0_ge (int_rn n).1 (fin_nn fin_one) (by
    rw [sv_one]
    have := Int.mul_le_mul_of_nonneg_right h (c := (2 : Int) ^ 1074) (by have := two_pow_ipos 1074; omega)
    omega)
  rw [sv_one] at this; exact this

theorem int_small_nat : ∀ n : Nat, n < 21 → sv (floatOfInt .f64 (n : Int)) = (n : Int) * (2 : Int) ^ 1074 := by decide +kernel
theorem int_small {n : Int} (h0 : 0 ≤ n) (h : n ≤ 20) : sv (floatOfInt .f64 n) = n * (2 : Int) ^ 1074 := by
  obtain ⟨k, rfl⟩ := Int.eq_ofNat_of_zero_le h0
  exact int_small_nat k (by omega)
theorem int_zero : floatOfInt .f64 0 = 0 := by decide +kernel

theorem sv_20 : sv 4626322717216342016 = 20 * (2 : Int) ^ 1074 := by decide +kernel
theorem nn_20 : nn 4626322717216342016 = true := by decide +kernel
theorem sv_19 : sv 4626041242239631360 = 19 * (2 : Int) ^ 1074 := by decide +kernel

/-- a number times 0 -/
theorem mul_zero_right {e q r : Nat} (he : fin e = true) (hq : fin q = true) (q0 : sv e = 0 ∨ sv q = 0) (h : FR .mul e q r) : nn r = true ∧ sv r = 0 := by
  obtain ⟨r', a1, a2⟩ := mul_fin he hq
  obtain rfl := fr_some h (by rw [fb_mul]; exact a1)
  have : sv e * sv q = 0 := by rcases q0 with h | h <;> rw [h] <;> simp
  rw [this] at a2
  have b1 := rnd_le0 a2 (by omega)
  have b2 := rnd_ge0 a2 (by omega)
  exact ⟨a2.1, by omega⟩

theorem ac4 (F A j : Int) : F * A * (j * A) = F * j * A * A := by ac_rfl

/-- fewer than twenty -/
theorem mul_lt20 {e q r : Nat} {F j : Int} (he : fin e = true) (hq : fin q = true) (e1 : sv e = F * (2 : Int) ^ 1074) (q1 : sv q = j * (2 : Int) ^ 1074) (hF : F * j ≤ 19) (h : FR .mul e q r) : nn r = true ∧ sv r < sv 4626322717216342016 := by
  obtain ⟨r', a1, a2⟩ := mul_fin he hq
  obtain rfl := fr_some h (by rw [fb_mul]; exact a1)
  refine ⟨a2.1, ?_⟩
  have hp := two_pow_ipos 1074
  have hl := rnd_le a2 (z := 4626041242239631360) (by decide +kernel) (by
    rw [sv_19, e1, q1]
    rw [ac4]
    exact Int.mul_le_mul_of_nonneg_right (Int.mul_le_mul_of_nonneg_right hF (by omega)) (by omega))
  rw [sv_19] at hl
  rw [sv_20]; omega

/-- twenty or more -/
theorem mul_ge20 {e q r : Nat} (he : fin e = true) (hq : fin q = true) (hV : 20 * (2 : Int) ^ 1074 * (2 : Int) ^ 1074 ≤ sv e * sv q) (h : FR .mul e q r) : nn r = true ∧ sv 4626322717216342016 ≤ sv r := by
  obtain ⟨r', a1, a2⟩ := mul_fin he hq
  obtain rfl := fr_some h (by rw [fb_mul]; exact a1)
  exact ⟨a2.1, rnd_ge a2 nn_20 (by rw [sv_20]; exact hV)⟩

/-- 'x - x == 0' tells the finite ones -/
theorem finite_test {x r : Nat} (h : FR .sub x x r) : (nn r && decide (sv r = 0)) = fin x := by
  cases hf : fin x
  · have := fr_none h (by rw [fb_sub]; exact sub_self_inf hf)
    rw [this]; rfl
  · obtain ⟨r', a1, a2⟩ := sub_fin hf hf
    obtain rfl := fr_some h (by rw [fb_sub]; exact a1)
    have b1 := rnd_le0 a2 (by omega)
    have b2 := rnd_ge0 a2 (by omega)
    have : sv r = 0 := by omega
    rw [a2.1, this]; rfl

end Go.Proofs.Qxb6602616a.Fl
