/- Plain theory of the double format, part 2: what the operations and the order give, by values. No Go in sight. -/
import Derived.Test.Qxb6602616aFl
namespace Go.Proofs.Qxb6602616a.Fl
open Ieee

theorem fin_nn {x : Nat} (h : fin x = true) : nn x = true := by
  simp only [fin, nn, decide_eq_true_eq] at *; omega

theorem read_fin {x : Nat} (h : fin x = true) : ∃ m e : Nat, double.read x = .number (ngv x) m (-1074 + (e : Int)) ∧ U (rung x) = m * 2 ^ e ∧ m < 2 ^ 53 := by
  simp only [fin, decide_eq_true_eq] at h
  unfold Format.read
  simp only [dbl_sw, dbl_bi, dbl_inf, dbl_lp]
  show ∃ m e : Nat, (if rung x < 4503599627370496 then Datum.number (ngv x) (rung x) (-1074) else if rung x < 9218868437227405312 then Datum.number (ngv x) (4503599627370496 + rung x % 4503599627370496) (-1074 + ((rung x / 4503599627370496 - 1 : Nat) : Int)) else if rung x = 9218868437227405312 then Datum.infinity (ngv x) else Datum.nan (ngv x) (rung x - 9218868437227405312)) = _ ∧ _
  by_cases h1 : rung x < 4503599627370496
  · rw [if_pos h1]
    exact ⟨rung x, 0, by simp, by rw [U_small h1]; simp, by rw [p53]; omega⟩
  · rw [if_neg h1, if_pos h]
    exact ⟨_, _, rfl, U_big (by omega), by rw [p53]; omega⟩

theorem read_inf {x : Nat} (h : nn x = true) (h2 : fin x = false) : double.read x = .infinity (ngv x) ∧ U (rung x) = U 9218868437227405312 := by
  simp only [fin, nn, decide_eq_true_eq, decide_eq_false_iff_not] at *
  have h3 : rung x = 9218868437227405312 := by omega
  unfold Format.read
  simp only [dbl_sw, dbl_bi, dbl_inf, dbl_lp]
  show (if rung x < 4503599627370496 then Datum.number (ngv x) (rung x) (-1074) else if rung x < 9218868437227405312 then Datum.number (ngv x) (4503599627370496 + rung x % 4503599627370496) (-1074 + ((rung x / 4503599627370496 - 1 : Nat) : Int)) else if rung x = 9218868437227405312 then Datum.infinity (ngv x) else Datum.nan (ngv x) (rung x - 9218868437227405312)) = _ ∧ _
  rw [if_neg (by omega), if_neg (by omega), if_pos h3, h3]
  exact ⟨rfl, rfl⟩

theorem read_nan {x : Nat} (h : nn x = false) : ∃ f, double.read x = .nan (ngv x) f := by
  simp only [nn, decide_eq_false_iff_not] at h
  unfold Format.read
  simp only [dbl_sw, dbl_bi, dbl_inf, dbl_lp]
  show ∃ f, (if rung x < 4503599627370496 then Datum.number (ngv x) (rung x) (-1074) else if rung x < 9218868437227405312 then Datum.number (ngv x) (4503599627370496 + rung x % 4503599627370496) (-1074 + ((rung x / 4503599627370496 - 1 : Nat) : Int)) else if rung x = 9218868437227405312 then Datum.infinity (ngv x) else Datum.nan (ngv x) (rung x - 9218868437227405312)) = _
  rw [if_neg (by omega), if_neg (by omega), if_neg (by omega)]
  exact ⟨_, rfl⟩

theorem signed_eq (n : Bool) (m u : Nat) : signed n m u = sg n (m * 2 ^ u) := by
  unfold signed sg; rw [Nat.shiftLeft_eq]

theorem sg_mul (n : Bool) (a b : Nat) : sg n (a * b) = sg n a * (b : Int) := by
  unfold sg; cases n <;> simp [Int.neg_mul]

theorem compare_mul (a b c : Int) (h : 0 < c) : compare (a * c) (b * c) = compare a b := by
  have key : a * c < b * c ↔ a < b := Int.mul_lt_mul_right h
  have key2 : a * c = b * c ↔ a = b := ⟨fun e => Int.eq_of_mul_eq_mul_right (by omega) e, fun e => by rw [e]⟩
  simp only [compare, compareOfLessAndEq, key, key2]

theorem U_inf_lt {x : Nat} (h : fin x = true) : U (rung x) < U 9218868437227405312 := by
  simp only [fin, decide_eq_true_eq] at h; exact U_lt h

theorem order_nn {x y : Nat} (hx : nn x = true) (hy : nn y = true) : double.order x y = some (compare (sv x) (sv y)) := by
  unfold Format.order
  have lt : ∀ {a b : Int}, a < b → compare a b = .lt := fun h => by simp [compare, compareOfLessAndEq, h]
  have gt : ∀ {a b : Int}, b < a → compare a b = .gt := fun {a b} h => by
    have h1 : ¬ a < b := by omega
    have h2 : a ≠ b := by omega
    simp [compare, compareOfLessAndEq, h1, h2]
  have eq : ∀ {a b : Int}, a = b → compare a b = .eq := fun {a b} h => by
    subst h; simp [compare, compareOfLessAndEq]
  have hp : 0 < U 9218868437227405312 := by have := U_lt (r := 0) (s := 9218868437227405312) (by omega); omega
  cases fx : fin x <;> cases fy : fin y
  · obtain ⟨r1, u1⟩ := read_inf hx fx
    obtain ⟨r2, u2⟩ := read_inf hy fy
    rw [r1, r2]; unfold sv; rw [u1, u2]
    simp only [Datum.order]
    congr 1
    cases ngv x <;> cases ngv y <;> simp only [sg, Bool.false_eq_true, if_false, if_true]
    · rw [eq rfl]; rfl
    · rw [gt (by omega)]; rfl
    · rw [lt (by omega)]; rfl
    · rw [eq rfl]; rfl
  · obtain ⟨r1, u1⟩ := read_inf hx fx
    obtain ⟨m, e, r2, u2, _⟩ := read_fin fy
    have hl := U_inf_lt fy
    rw [r1, r2]; unfold sv; rw [u1]
    simp only [Datum.order]
    congr 1
    cases ngv x <;> cases ngv y <;> simp only [sg, Bool.false_eq_true, if_false, if_true]
    · rw [gt (by omega)]
    · rw [gt (by omega)]
    · rw [lt (by omega)]
    · rw [lt (by omega)]
  · obtain ⟨r1, u1⟩ := read_inf hy fy
    obtain ⟨m, e, r2, u2, _⟩ := read_fin fx
    have hl := U_inf_lt fx
    rw [r1, r2]; unfold sv; rw [u1]
    simp only [Datum.order]
    congr 1
    cases ngv x <;> cases ngv y <;> simp only [sg, Bool.false_eq_true, if_false, if_true]
    · rw [lt (by omega)]
    · rw [gt (by omega)]
    · rw [lt (by omega)]
    · rw [gt (by omega)]
  · obtain ⟨m, e, r1, u1, _⟩ := read_fin fx
    obtain ⟨n, d, r2, u2, _⟩ := read_fin fy
    rw [r1, r2]; unfold sv; rw [u1, u2]
    simp only [Datum.order]
    congr 1
    rw [signed_eq, signed_eq]
    have hb : min (-1074 + (e : Int)) (-1074 + (d : Int)) = -1074 + ((min e d : Nat) : Int) := by omega
    rw [hb]
    have e1 : (-1074 + (e : Int) - (-1074 + ((min e d : Nat) : Int))).toNat = e - min e d := by omega
    have e2 : (-1074 + (d : Int) - (-1074 + ((min e d : Nat) : Int))).toNat = d - min e d := by omega
    rw [e1, e2]
    have h1 : m * 2 ^ e = m * 2 ^ (e - min e d) * 2 ^ min e d := by rw [Nat.mul_assoc, ← Nat.pow_add]; congr 2; omega
    have h2 : n * 2 ^ d = n * 2 ^ (d - min e d) * 2 ^ min e d := by rw [Nat.mul_assoc, ← Nat.pow_add]; congr 2; omega
    rw [h1, h2, sg_mul _ _ (2 ^ min e d), sg_mul _ _ (2 ^ min e d)]
    exact (compare_mul _ _ _ (Int.natCast_pos.2 (Nat.two_pow_pos _))).symm

theorem order_nan {x y : Nat} (h : nn x = false ∨ nn y = false) : double.order x y = none := by
  unfold Format.order
  rcases h with h | h
  · obtain ⟨f, hf⟩ := read_nan h
    rw [hf]; rfl
  · obtain ⟨f, hf⟩ := read_nan h
    rw [hf]; cases double.read x <;> rfl

/-! the six tests, by values -/
theorem lt_b (x y : Nat) : (double.order x y == some .lt) = (nn x && nn y && decide (sv x < sv y)) := by
  cases hx : nn x <;> cases hy : nn y
  case true.true => 
    rw [order_nn hx hy]
    rcases Int.lt_trichotomy (sv x) (sv y) with h | h | h
    · simp [compare, compareOfLessAndEq, h]
    · simp [compare, compareOfLessAndEq, h]
    · have h1 : ¬ sv x < sv y := by omega
      have h2 : sv x ≠ sv y := by omega
      simp [compare, compareOfLessAndEq, h1, h2]
  all_goals rw [order_nan (by simp [hx, hy])]; simp
theorem eq_b (x y : Nat) : (double.order x y == some .eq) = (nn x && nn y && decide (sv x = sv y)) := by
  cases hx : nn x <;> cases hy : nn y
  case true.true => 
    rw [order_nn hx hy]
    rcases Int.lt_trichotomy (sv x) (sv y) with h | h | h
    · have h2 : sv x ≠ sv y := by omega
      simp [compare, compareOfLessAndEq, h, h2]
    · simp [compare, compareOfLessAndEq, h]
    · have h1 : ¬ sv x < sv y := by omega
      have h2 : sv x ≠ sv y := by omega
      simp [compare, compareOfLessAndEq, h1, h2]
  all_goals rw [order_nan (by simp [hx, hy])]; simp
theorem gt_b (x y : Nat) : (double.order x y == some .gt) = (nn x && nn y && decide (sv y < sv x)) := by
  cases hx : nn x <;> cases hy : nn y
  case true.true => 
    rw [order_nn hx hy]
    rcases Int.lt_trichotomy (sv x) (sv y) with h | h | h
    · have h1 : ¬ sv y < sv x := by omega
      simp [compare, compareOfLessAndEq, h, h1]
    · simp [compare, compareOfLessAndEq, h]
    · have h1 : ¬ sv x < sv y := by omega
      have h2 : sv x ≠ sv y := by omega
      simp [compare, compareOfLessAndEq, h1, h2, h]
  all_goals rw [order_nan (by simp [hx, hy])]; simp
theorem le_b (x y : Nat) : (double.order x y == some .lt || double.order x y == some .eq) = (nn x && nn y && decide (sv x ≤ sv y)) := by
  rw [lt_b, eq_b]
  cases nn x <;> cases nn y <;> simp
  rw [← Bool.decide_or]; congr 1; apply propext; omega
theorem ge_b (x y : Nat) : (double.order x y == some .gt || double.order x y == some .eq) = (nn x && nn y && decide (sv y ≤ sv x)) := by
  rw [gt_b, eq_b]
  cases nn x <;> cases nn y <;> simp
  rw [← Bool.decide_or]; congr 1; apply propext; omega

/-! the operations -/
theorem sg_natAbs (t : Int) : sg (decide (t < 0)) t.natAbs = t := by
  unfold sg; by_cases h : t < 0
  · simp [h]; omega
  · simp [h]; omega

theorem sum_rnd (s t : Bool) (m n e d : Nat) : ∃ D, Datum.sum (.number s m (-1074 + (e : Int))) (.number t n (-1074 + (d : Int))) = some D ∧ Rnd (sg s (m * 2 ^ e) + sg t (n * 2 ^ d)) 0 (double.write D) := by
  simp only [Datum.sum]
  refine ⟨_, rfl, ?_⟩
  rw [signed_eq, signed_eq]
  have hb : min (-1074 + (e : Int)) (-1074 + (d : Int)) = -1074 + ((min e d : Nat) : Int) := by omega
  rw [hb]
  have e1 : (-1074 + (e : Int) - (-1074 + ((min e d : Nat) : Int))).toNat = e - min e d := by omega
  have e2 : (-1074 + (d : Int) - (-1074 + ((min e d : Nat) : Int))).toNat = d - min e d := by omega
  rw [e1, e2]
  have h1 : m * 2 ^ e = m * 2 ^ (e - min e d) * 2 ^ min e d := by rw [Nat.mul_assoc, ← Nat.pow_add]; congr 2; omega
  have h2 : n * 2 ^ d = n * 2 ^ (d - min e d) * 2 ^ min e d := by rw [Nat.mul_assoc, ← Nat.pow_add]; congr 2; omega
  rw [h1, h2, sg_mul _ _ (2 ^ min e d), sg_mul _ _ (2 ^ min e d), ← Int.add_mul]
  generalize sg s (m * 2 ^ (e - min e d)) + sg t (n * 2 ^ (d - min e d)) = T
  have := write_rnd (if T = 0 then s && t else decide (T < 0)) T.natAbs (-1074 + ((min e d : Nat) : Int)) (min e d) 0 (by omega)
  have hs : sg (if T = 0 then s && t else decide (T < 0)) (T.natAbs * 2 ^ min e d) = T * ((2 ^ min e d : Nat) : Int) := by
    by_cases h0 : T = 0
    · subst h0; simp [sg]
    · rw [if_neg h0, sg_mul, sg_natAbs]
  rw [hs] at this
  exact this

theorem sv_fin {x : Nat} {m e : Nat} (h : U (rung x) = m * 2 ^ e) : sv x = sg (ngv x) (m * 2 ^ e) := by unfold sv; rw [h]

theorem add_fin {x y : Nat} (hx : fin x = true) (hy : fin y = true) : ∃ r, double.add x y = some r ∧ Rnd (sv x + sv y) 0 r := by
  obtain ⟨m, e, r1, u1, _⟩ := read_fin hx
  obtain ⟨n, d, r2, u2, _⟩ := read_fin hy
  obtain ⟨D, h1, h2⟩ := sum_rnd (ngv x) (ngv y) m n e d
  unfold Format.add
  rw [r1, r2, h1, sv_fin u1, sv_fin u2]
  exact ⟨_, rfl, h2⟩

theorem sg_not (n : Bool) (a : Nat) : sg (!n) a = - sg n a := by cases n <;> simp [sg]

theorem sub_fin {x y : Nat} (hx : fin x = true) (hy : fin y = true) : ∃ r, double.sub x y = some r ∧ Rnd (sv x - sv y) 0 r := by
  obtain ⟨m, e, r1, u1, _⟩ := read_fin hx
  obtain ⟨n, d, r2, u2, _⟩ := read_fin hy
  obtain ⟨D, h1, h2⟩ := sum_rnd (ngv x) (!ngv y) m n e d
  unfold Format.sub
  rw [r1, r2]
  show ∃ r, ((Datum.number (ngv x) m (-1074 + (e : Int))).sum (.number (!ngv y) n (-1074 + (d : Int)))).map double.write = some r ∧ _
  rw [h1, sv_fin u1, sv_fin u2]
  rw [sg_not, ← Int.sub_eq_add_neg] at h2
  exact ⟨_, rfl, h2⟩

theorem mul_fin {x y : Nat} (hx : fin x = true) (hy : fin y = true) : ∃ r, double.mul x y = some r ∧ Rnd (sv x * sv y) 1074 r := by
  obtain ⟨m, e, r1, u1, _⟩ := read_fin hx
  obtain ⟨n, d, r2, u2, _⟩ := read_fin hy
  unfold Format.mul
  rw [r1, r2, sv_fin u1, sv_fin u2]
  refine ⟨_, rfl, ?_⟩
  have := write_rnd (ngv x ^^ ngv y) (m * n) (-1074 + (e : Int) + (-1074 + (d : Int))) (e + d) 1074 (by omega)
  have hs : sg (ngv x ^^ ngv y) (m * n * 2 ^ (e + d)) = sg (ngv x) (m * 2 ^ e) * sg (ngv y) (n * 2 ^ d) := by
    have : m * n * 2 ^ (e + d) = (m * 2 ^ e) * (n * 2 ^ d) := by rw [Nat.pow_add]; ac_rfl
    rw [this]
    cases ngv x <;> cases ngv y <;> simp [sg, Int.neg_mul, Int.mul_neg]
  rw [hs] at this
  exact this

theorem inf_word (n : Bool) : nn (double.word n double.infRung) = true ∧ sv (double.word n double.infRung) = sg n (U 9218868437227405312) := by
  rw [dbl_inf]; exact ⟨nn_word n (Nat.le_refl _), sv_word n (Nat.le_refl _)⟩

/-- an infinity and a finite number: the infinity -/
theorem add_inf {x y : Nat} (hx : nn x = true) (fx : fin x = false) (hy : fin y = true) : ∃ r, double.add x y = some r ∧ nn r = true ∧ sv r = sv x := by
  obtain ⟨r1, u1⟩ := read_inf hx fx
  obtain ⟨n, d, r2, u2, _⟩ := read_fin hy
  unfold Format.add
  rw [r1, r2]
  refine ⟨_, rfl, (inf_word _).1, ?_⟩
  show sv (double.word (ngv x) double.infRung) = _
  rw [(inf_word _).2]; unfold sv; rw [u1]

theorem mul_inf {x y : Nat} (hx : fin x = true) (h0 : 0 < sv x) (hy : nn y = true) (fy : fin y = false) : ∃ r, double.mul x y = some r ∧ nn r = true ∧ sv r = sv y := by
  obtain ⟨r1, u1⟩ := read_inf hy fy
  obtain ⟨m, e, r2, u2, _⟩ := read_fin hx
  rw [sv_fin u2] at h0
  have hm : m ≠ 0 := by intro e; subst e; simp [sg] at h0
  have hn : ngv x = false := by
    cases h : ngv x
    · rfl
    · have := sg_le (a := m * 2 ^ e) h; omega
  unfold Format.mul
  rw [r1, r2]
  simp only [Datum.product, if_neg hm]
  refine ⟨_, rfl, (inf_word _).1, ?_⟩
  show sv (double.word (ngv y ^^ ngv x) double.infRung) = _
  rw [(inf_word _).2]; unfold sv; rw [u1, hn]; simp

/-- the quotient's digits, held against a whole number -/
theorem quot_spec (a n A : Nat) (h0 : n ≠ 0) : (a ≤ A * n → 2 * (a / n) + (a % n != 0).toNat ≤ 2 * A) ∧ (A * n ≤ a → 2 * A ≤ 2 * (a / n) + (a % n != 0).toNat) := by
  have hm := Nat.div_add_mod a n
  have hr := Nat.mod_lt a (Nat.pos_of_ne_zero h0)
  generalize a / n = q at *
  generalize a % n = s at *
  have hp : 0 < n := Nat.pos_of_ne_zero h0
  constructor
  · intro h
    have h1 : n * q ≤ n * A := by rw [Nat.mul_comm n A]; omega
    have h2 : q ≤ A := Nat.le_of_mul_le_mul_left h1 hp
    by_cases hs : s = 0
    · subst hs; simp; omega
    · have h3 : q ≠ A := by intro e; subst e; rw [Nat.mul_comm] at h; omega
      have : (s != 0).toNat ≤ 1 := Bool.toNat_le _
      omega
  · intro h
    have h1 : n * A < n * (q + 1) := by rw [Nat.mul_comm n A, Nat.mul_add]; omega
    have h2 : A < q + 1 := Nat.lt_of_mul_lt_mul_left h1
    omega

end Go.Proofs.Qxb6602616a.Fl
