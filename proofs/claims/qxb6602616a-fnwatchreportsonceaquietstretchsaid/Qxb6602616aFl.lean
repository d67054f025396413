/- Plain theory of the double format of 'Ieee': the value of a word in units of 2^-1074, and what rounding does to an exact value. No Go in sight. -/
import Ieee.Arith
import Derived.Laws.FloatBits
namespace Go.Proofs.Qxb6602616a.Fl
open Ieee

def rung (x : Nat) : Nat := x % 9223372036854775808
def ngv (x : Nat) : Bool := x / 9223372036854775808 % 2 == 1
/-- the magnitude of a rung, in units of 2^-1074 -/
def U (r : Nat) : Nat := if r < 4503599627370496 then r else (4503599627370496 + r % 4503599627370496) * 2 ^ (r / 4503599627370496 - 1)
def sg (n : Bool) (m : Nat) : Int := if n then -(m : Int) else (m : Int)
def sv (x : Nat) : Int := sg (ngv x) (U (rung x))
/-- no NaN -/
def nn (x : Nat) : Bool := decide (rung x ≤ 9218868437227405312)
/-- finite -/
def fin (x : Nat) : Bool := decide (rung x < 9218868437227405312)

theorem p52 : (2 : Nat) ^ 52 = 4503599627370496 := by decide
theorem p53 : (2 : Nat) ^ 53 = 9007199254740992 := by decide

theorem U_small {r : Nat} (h : r < 4503599627370496) : U r = r := by unfold U; rw [if_pos h]
theorem U_big {r : Nat} (h : 4503599627370496 ≤ r) : U r = (4503599627370496 + r % 4503599627370496) * 2 ^ (r / 4503599627370496 - 1) := by unfold U; rw [if_neg (by omega)]

theorem U_form (e k : Nat) (h : 4503599627370496 ≤ k ∧ k ≤ 9007199254740992 ∨ e = 0 ∧ k ≤ 9007199254740992) : U (e * 4503599627370496 + k) = k * 2 ^ e := by
  by_cases h1 : k < 4503599627370496
  · obtain rfl : e = 0 := by omega
    rw [U_small (by omega)]; simp
  · by_cases h2 : k = 9007199254740992
    · subst h2
      rw [U_big (by omega)]
      have a : (e * 4503599627370496 + 9007199254740992) % 4503599627370496 = 0 := by omega
      have b : (e * 4503599627370496 + 9007199254740992) / 4503599627370496 - 1 = e + 1 := by omega
      rw [a, b, Nat.pow_succ]
      generalize 2 ^ e = t
      omega
    · rw [U_big (by omega)]
      have a : (e * 4503599627370496 + k) % 4503599627370496 = k - 4503599627370496 := by omega
      have b : (e * 4503599627370496 + k) / 4503599627370496 - 1 = e := by omega
      rw [a, b, show 4503599627370496 + (k - 4503599627370496) = k from by omega]

theorem U_succ (r : Nat) : U r < U (r + 1) := by
  by_cases h : r < 4503599627370496
  · rw [U_small h]
    by_cases h2 : r + 1 < 4503599627370496
    · rw [U_small h2]; omega
    · have : r + 1 = 0 * 4503599627370496 + 4503599627370496 := by omega
      rw [this, U_form 0 _ (by omega)]; simp; omega
  · have e1 : r = (r / 4503599627370496 - 1) * 4503599627370496 + (4503599627370496 + r % 4503599627370496) := by omega
    have e2 : r + 1 = (r / 4503599627370496 - 1) * 4503599627370496 + (4503599627370496 + r % 4503599627370496 + 1) := by omega
    rw [e2, U_form _ _ (by omega)]
    rw [U_big (by omega)]
    exact Nat.mul_lt_mul_of_pos_right (by omega) (Nat.two_pow_pos _)

theorem U_lt {r s : Nat} (h : r < s) : U r < U s := by
  induction s with
  | zero => omega
  | succ n ih =>
    by_cases e : r = n
    · subst e; exact U_succ r
    · exact Nat.lt_trans (ih (by omega)) (U_succ n)

theorem U_le {r s : Nat} (h : r ≤ s) : U r ≤ U s := by
  by_cases e : r = s
  · subst e; exact Nat.le_refl _
  · exact Nat.le_of_lt (U_lt (by omega))

theorem U_le_of {r s : Nat} (h : U r ≤ U s) : r ≤ s := by
  by_cases e : r ≤ s
  · exact e
  · have := U_lt (r := s) (s := r) (by omega); omega

theorem U_inj {r s : Nat} (h : U r = U s) : r = s := by
  have a := U_le_of (r := r) (s := s) (by omega)
  have b := U_le_of (r := s) (s := r) (by omega)
  omega

theorem U_zero : U 0 = 0 := U_small (by omega)

theorem U_mult {r e : Nat} (h : 2 ^ (52 + e) ≤ U r) : ∃ q, U r = q * 2 ^ e := by
  by_cases h1 : r < 4503599627370496
  · rw [U_small h1] at h
    have : (2 : Nat) ^ 52 ≤ 2 ^ (52 + e) := Nat.pow_le_pow_right (by omega) (by omega)
    rw [p52] at this; omega
  · rw [U_big (by omega)] at h ⊢
    have hm : 4503599627370496 + r % 4503599627370496 < 2 ^ 53 := by rw [p53]; omega
    generalize 4503599627370496 + r % 4503599627370496 = m at *
    generalize r / 4503599627370496 - 1 = d at *
    have h2 : 2 ^ (52 + e) < 2 ^ (53 + d) := by
      refine Nat.lt_of_le_of_lt h ?_
      rw [Nat.pow_add]
      exact Nat.mul_lt_mul_of_pos_right hm (Nat.two_pow_pos _)
    have h3 : 52 + e < 53 + d := (Nat.pow_lt_pow_iff_right (by omega)).1 h2
    refine ⟨m * 2 ^ (d - e), ?_⟩
    rw [Nat.mul_assoc, ← Nat.pow_add]
    congr 2; omega

/-- 'cut' to the nearest: it keeps every whole bound. -/
theorem cut_spec (neg : Bool) (n d X : Nat) : (n ≤ X * 2 ^ d → Toward.even.cut neg n d ≤ X) ∧ (X * 2 ^ d ≤ n → X ≤ Toward.even.cut neg n d) := by
  unfold Toward.cut
  simp only [Nat.shiftLeft_eq, Nat.one_mul]
  by_cases hd : d ≤ n.log2 + 2
  · rw [Nat.min_eq_left hd]
    have hp : 0 < 2 ^ d := Nat.two_pow_pos _
    generalize 2 ^ d = g at *
    have hm := Nat.div_add_mod n g
    have hr := Nat.mod_lt n hp
    generalize n / g = q at *
    generalize n % g = s at *
    have hb : (decide (g < 2 * s) || g == 2 * s && q % 2 == 1).toNat ≤ 1 := Bool.toNat_le _
    have hz : s = 0 → (decide (g < 2 * s) || g == 2 * s && q % 2 == 1).toNat = 0 := by
      intro h0; subst h0
      have : (g == 2 * 0) = false := by simp; omega
      simp
      omega
    generalize (decide (g < 2 * s) || g == 2 * s && q % 2 == 1).toNat = b at *
    constructor
    · intro h
      have h1 : g * q ≤ g * X := by rw [Nat.mul_comm g X]; omega
      have h2 : q ≤ X := Nat.le_of_mul_le_mul_left h1 hp
      by_cases hs : s = 0
      · have := hz hs; omega
      · have h3 : q ≠ X := by
          intro e; subst e
          rw [Nat.mul_comm] at h; omega
        omega
    · intro h
      have h1 : g * X < g * (q + 1) := by rw [Nat.mul_comm g X, Nat.mul_add]; omega
      have h2 : X < q + 1 := Nat.lt_of_mul_lt_mul_left h1
      omega
  · rw [Nat.min_eq_right (by omega)]
    have hl : n < 2 ^ (n.log2 + 1) := Nat.lt_log2_self
    have e2 : 2 ^ (n.log2 + 2) = 2 * 2 ^ (n.log2 + 1) := by rw [show n.log2 + 2 = (n.log2 + 1) + 1 from rfl, Nat.pow_succ]; omega
    have hX : X * 2 ^ d ≤ n → X = 0 := by
      intro h
      have h1 : 2 ^ (n.log2 + 1) ≤ 2 ^ d := Nat.pow_le_pow_right (by omega) (by omega)
      by_cases h0 : X = 0
      · exact h0
      · have : 1 * 2 ^ d ≤ X * 2 ^ d := Nat.mul_le_mul_right _ (by omega)
        omega
    rw [e2]
    generalize 2 ^ (n.log2 + 1) = g at *
    have hq : n / (2 * g) = 0 := Nat.div_eq_of_lt (by omega)
    have hr : n % (2 * g) = n := Nat.mod_eq_of_lt (by omega)
    rw [hq, hr]
    have : (decide (2 * g < 2 * n) || (2 * g == 2 * n) && 0 % 2 == 1).toNat = 0 := by
      simp; omega
    simp only [this]
    exact ⟨fun _ => by omega, fun h => by have := hX h; omega⟩

theorem dbl_fr : double.fractionBits = 52 := rfl
theorem dbl_lp : double.leastPlace = -1074 := by decide
theorem dbl_bi : double.binade = 4503599627370496 := by decide
theorem dbl_inf : double.infRung = 9218868437227405312 := by decide
theorem dbl_sw : double.signWeight = 9223372036854775808 := by decide

set_option maxHeartbeats 1000000 in
/-- the rung that 'nearest' gives -/
theorem nearest_spec (neg : Bool) (mag : Nat) (place : Int) (P K : Nat) (hp : place = (P : Int) - 1074 - K) :
    ∃ g, double.nearest neg mag place = double.word neg g ∧ g ≤ 9218868437227405312 ∧
      ∀ r, r ≤ 9218868437227405312 → (mag * 2 ^ P ≤ U r * 2 ^ K → g ≤ r) ∧ (U r * 2 ^ K ≤ mag * 2 ^ P → r ≤ g) := by
  unfold Format.nearest
  by_cases h0 : mag = 0
  · subst h0
    refine ⟨0, by simp, by omega, fun r _ => ⟨fun _ => by omega, fun h => ?_⟩⟩
    have h1 : U r * 2 ^ K ≤ 0 := by simpa using h
    have h2 : U r = 0 := by
      rcases Nat.eq_zero_or_pos (U r) with h | h
      · exact h
      · have := Nat.mul_pos h (Nat.two_pow_pos K); omega
    have := U_le_of (r := r) (s := 0) (by rw [U_zero]; omega)
    omega
  · rw [if_neg h0]
    simp only [dbl_fr, dbl_lp, dbl_bi, dbl_inf, Nat.shiftLeft_eq]
    have hL1 : 2 ^ mag.log2 ≤ mag := Nat.log2_self_le h0
    have hL2 : mag < 2 ^ (mag.log2 + 1) := Nat.lt_log2_self
    generalize mag.log2 = L at *
    obtain ⟨e, he⟩ : ∃ e : Nat, max (place + (L : Int) - (52 : Nat)) (-1074) = (e : Int) - 1074 := ⟨(max (place + (L : Int) - (52 : Nat)) (-1074) + 1074).toNat, by omega⟩
    rw [he]
    have hup : ∃ u, (place - ((e : Int) - 1074)).toNat = u := ⟨_, rfl⟩
    obtain ⟨u, hu⟩ := hup
    have hdn : ∃ d, (((e : Int) - 1074) - place).toNat = d := ⟨_, rfl⟩
    obtain ⟨d, hd⟩ := hdn
    rw [hu, hd]
    have hid : P + d = e + K + u := by omega
    have he1 : P + L ≤ 52 + e + K := by omega
    have he2 : 0 < e → P + L = 52 + e + K := by omega
    have hcut := fun X => cut_spec neg (mag * 2 ^ u) d X
    generalize Toward.even.cut neg (mag * 2 ^ u) d = k at *
    have hee : ((e : Int) - 1074 - -1074).toNat = e := by omega
    rw [hee]
    clear hu hd he hee
    have key : mag * 2 ^ P * 2 ^ d = mag * 2 ^ u * 2 ^ (e + K) := by
      rw [Nat.mul_assoc, Nat.mul_assoc, ← Nat.pow_add, ← Nat.pow_add]; congr 2; omega
    have hA : ∀ X, mag * 2 ^ P ≤ X * 2 ^ (e + K) → k ≤ X := by
      intro X h
      refine (hcut X).1 ?_
      have h1 := Nat.mul_le_mul_right (2 ^ d) h
      rw [key, Nat.mul_right_comm X] at h1
      exact Nat.le_of_mul_le_mul_right h1 (Nat.two_pow_pos _)
    have hB : ∀ X, X * 2 ^ (e + K) ≤ mag * 2 ^ P → X ≤ k := by
      intro X h
      refine (hcut X).2 ?_
      have h1 := Nat.mul_le_mul_right (2 ^ d) h
      rw [key, Nat.mul_right_comm X] at h1
      exact Nat.le_of_mul_le_mul_right h1 (Nat.two_pow_pos _)
    have hk2 : k ≤ 9007199254740992 := by
      refine hA _ ?_
      rw [← p53, ← Nat.pow_add]
      refine Nat.le_trans (Nat.mul_le_mul_right _ (Nat.le_of_lt hL2)) ?_
      rw [← Nat.pow_add]
      exact Nat.pow_le_pow_right (by omega) (by omega)
    have hk1 : 0 < e → 4503599627370496 ≤ k := by
      intro h
      refine hB _ ?_
      rw [← p52, ← Nat.pow_add]
      refine Nat.le_trans ?_ (Nat.mul_le_mul_right _ hL1)
      rw [← Nat.pow_add]
      exact Nat.pow_le_pow_right (by omega) (by have := he2 h; omega)
    have hU : U (e * 4503599627370496 + k) = k * 2 ^ e := by
      refine U_form e k ?_
      by_cases h : 0 < e
      · exact .inl ⟨hk1 h, hk2⟩
      · exact .inr ⟨by omega, hk2⟩
    have hlo : 0 < e → 2 ^ (52 + e) * 2 ^ K ≤ mag * 2 ^ P := by
      intro h
      refine Nat.le_trans ?_ (Nat.mul_le_mul_right _ hL1)
      rw [← Nat.pow_add, ← Nat.pow_add]
      exact Nat.pow_le_pow_right (by omega) (by have := he2 h; omega)
    refine ⟨min (e * 4503599627370496 + k) 9218868437227405312, rfl, Nat.min_le_right .., fun r hr => ⟨fun h => ?_, fun h => ?_⟩⟩
    · have : e * 4503599627370496 + k ≤ r := by
        refine U_le_of ?_
        rw [hU]
        by_cases h1 : 0 < e
        · have h2 : 2 ^ (52 + e) ≤ U r := Nat.le_of_mul_le_mul_right (Nat.le_trans (hlo h1) h) (Nat.two_pow_pos _)
          obtain ⟨q, hq⟩ := U_mult h2
          rw [hq] at h ⊢
          exact Nat.mul_le_mul_right _ (hA q (by rw [Nat.pow_add, ← Nat.mul_assoc]; exact h))
        · obtain rfl : e = 0 := by omega
          have := hA (U r) (by simpa using h)
          simpa using this
      exact Nat.le_trans (Nat.min_le_left ..) this
    · have : r ≤ e * 4503599627370496 + k := by
        refine U_le_of ?_
        rw [hU]
        by_cases h1 : 0 < e
        · by_cases h2 : 2 ^ (52 + e) ≤ U r
          · obtain ⟨q, hq⟩ := U_mult h2
            rw [hq] at h ⊢
            exact Nat.mul_le_mul_right _ (hB q (by rw [Nat.pow_add, ← Nat.mul_assoc]; exact h))
          · have h3 : 2 ^ (52 + e) ≤ k * 2 ^ e := by
              rw [Nat.pow_add, p52]
              exact Nat.mul_le_mul_right _ (hk1 h1)
            omega
        · obtain rfl : e = 0 := by omega
          have := hB (U r) (by simpa using h)
          simpa using this
      exact Nat.le_min.2 ⟨this, hr⟩

theorem rung_word (n : Bool) {g : Nat} (h : g < 9223372036854775808) : rung (double.word n g) = g := by
  unfold rung Format.word; rw [dbl_sw]; split <;> omega
theorem ngv_word (n : Bool) {g : Nat} (h : g < 9223372036854775808) : ngv (double.word n g) = n := by
  unfold ngv Format.word; rw [dbl_sw]
  cases n <;> simp <;> omega
theorem sv_word (n : Bool) {g : Nat} (h : g ≤ 9218868437227405312) : sv (double.word n g) = sg n (U g) := by
  unfold sv; rw [rung_word n (by omega), ngv_word n (by omega)]
theorem nn_word (n : Bool) {g : Nat} (h : g ≤ 9218868437227405312) : nn (double.word n g) = true := by
  unfold nn; rw [rung_word n (by omega)]; simpa using h

/-- r is what the exact value 'V / 2^K' (in units of 2^-1074) rounds to -/
def Rnd (V : Int) (K r : Nat) : Prop := nn r = true ∧ ∀ z, nn z = true → (V ≤ sv z * (2 : Int) ^ K → sv r ≤ sv z) ∧ (sv z * (2 : Int) ^ K ≤ V → sv z ≤ sv r)

theorem two_pow_cast (k : Nat) : ((2 ^ k : Nat) : Int) = (2 : Int) ^ k := by simp
theorem two_pow_ipos (k : Nat) : (0 : Int) < (2 : Int) ^ k := by rw [← two_pow_cast]; exact Int.natCast_pos.2 (Nat.two_pow_pos k)

theorem sg_le {a : Nat} {n : Bool} : n = true → sg n a ≤ 0 := by intro h; subst h; simp [sg]
theorem sg_ge {a : Nat} {n : Bool} : n = false → 0 ≤ sg n a := by intro h; subst h; simp [sg]

theorem write_rnd (neg : Bool) (mag : Nat) (place : Int) (P K : Nat) (hp : place = (P : Int) - 1074 - K) :
    Rnd (sg neg (mag * 2 ^ P)) K (double.write (.number neg mag place)) := by
  obtain ⟨g, hg, hgi, hs⟩ := nearest_spec neg mag place P K hp
  show Rnd _ K (double.nearest neg mag place)
  rw [hg]
  refine ⟨nn_word _ hgi, fun z hz => ?_⟩
  rw [sv_word _ hgi]
  have hrz : rung z ≤ 9218868437227405312 := by simpa [nn] using hz
  have h1 := hs (rung z) hrz
  have h0 := hs 0 (by omega)
  rw [U_zero] at h0
  have hpp := two_pow_ipos K
  have hc := two_pow_cast K
  unfold sv
  generalize hVV : mag * 2 ^ P = V at *
  have e1 : ((U (rung z) * 2 ^ K : Nat) : Int) = (U (rung z) : Int) * (2 : Int) ^ K := by rw [← hc]; simp
  have gz : V = 0 → g = 0 := fun e => by have := h0.1 (by rw [e]; omega); omega
  have uz : (U (rung z) : Int) * (2 : Int) ^ K ≤ 0 → U (rung z) = 0 := by
    intro h
    rcases Nat.eq_zero_or_pos (U (rung z)) with h2 | h2
    · exact h2
    · have := Int.mul_pos (Int.natCast_pos.2 h2) hpp; omega
  have m1 : g ≤ rung z → (U g : Int) ≤ (U (rung z) : Int) := fun h => Int.ofNat_le.2 (U_le h)
  have m2 : rung z ≤ g → (U (rung z) : Int) ≤ (U g : Int) := fun h => Int.ofNat_le.2 (U_le h)
  cases neg <;> cases hn : ngv z <;> simp only [sg, Bool.false_eq_true, if_false, if_true]
  · exact ⟨fun h => m1 (h1.1 (by omega)), fun h => m2 (h1.2 (by omega))⟩
  · refine ⟨fun h => ?_, fun h => by omega⟩
    rw [Int.neg_mul] at h
    have hv : V = 0 := by have : (0 : Int) ≤ (U (rung z) : Int) * (2 : Int) ^ K := by rw [← e1]; omega
                          omega
    have := uz (by omega)
    rw [this, gz hv, U_zero]; simp
  · refine ⟨fun h => by omega, fun h => ?_⟩
    have hv : V = 0 := by have : (0 : Int) ≤ (U (rung z) : Int) * (2 : Int) ^ K := by rw [← e1]; omega
                          omega
    have := uz (by omega)
    rw [this, gz hv, U_zero]; simp
  · rw [Int.neg_mul]
    refine ⟨fun h => ?_, fun h => ?_⟩
    · have := m2 (h1.2 (by omega)); omega
    · have := m1 (h1.1 (by omega)); omega

end Go.Proofs.Qxb6602616a.Fl
