/- FnParseIntReadsBackPaddedDecimal: the walk. -/
import Derived.Test.Qxb6603754aP3
namespace Go.Proofs.Qxb6603754a
open Go.RowKit

theorem pow_lt9 {m t : Nat} (hm : m < 1000000000) (h : 10 ^ t ≤ m) : t < 9 := by
  have h1 : 10 ^ t < 10 ^ 9 := Nat.lt_of_le_of_lt h (Nat.lt_of_lt_of_le hm (by decide))
  exact (Nat.pow_lt_pow_iff_right (by omega)).1 h1
theorem row32n (w : World) : RowB (w.alloc (.cells #[.int .u8 45, .int .u8 0, .int .u8 0, .int .u8 0, .int .u8 0, .int .u8 0, .int .u8 0, .int .u8 0, .int .u8 0, .int .u8 0, .int .u8 0, .int .u8 0, .int .u8 0, .int .u8 0, .int .u8 0, .int .u8 0, .int .u8 0, .int .u8 0, .int .u8 0, .int .u8 0, .int .u8 0, .int .u8 0, .int .u8 0, .int .u8 0, .int .u8 0, .int .u8 0, .int .u8 0, .int .u8 0, .int .u8 0, .int .u8 0, .int .u8 0, .int .u8 0] 27)) w.heap.size 32 (fun i => if i = 0 then 45 else 0) := by
  refine ⟨fun i hi => ?_, fun i => World.frozen?_alloc_new w _ _ i⟩
  rw [World.cell?_alloc_new]
  have : i = 0 ∨ i = 1 ∨ i = 2 ∨ i = 3 ∨ i = 4 ∨ i = 5 ∨ i = 6 ∨ i = 7 ∨ i = 8 ∨ i = 9 ∨ i = 10 ∨ i = 11 ∨ i = 12 ∨ i = 13 ∨ i = 14 ∨ i = 15 ∨ i = 16 ∨ i = 17 ∨ i = 18 ∨ i = 19 ∨ i = 20 ∨ i = 21 ∨ i = 22 ∨ i = 23 ∨ i = 24 ∨ i = 25 ∨ i = 26 ∨ i = 27 ∨ i = 28 ∨ i = 29 ∨ i = 30 ∨ i = 31 := by omega
  rcases this with rfl | rfl | rfl | rfl | rfl | rfl | rfl | rfl | rfl | rfl | rfl | rfl | rfl | rfl | rfl | rfl | rfl | rfl | rfl | rfl | rfl | rfl | rfl | rfl | rfl | rfl | rfl | rfl | rfl | rfl | rfl | rfl <;> rfl
theorem Txt.z {f : Nat → Int} {s P m : Nat} (h : Txt f s P m 0 0) {k : Nat} (hk : k = s + P) : Txt (fun i => if i = k then 48 else f i) s (P + 1) m 0 0 := by
  refine ⟨fun e => ?_, fun j hj => ?_, fun j hj => by omega⟩
  · subst e
    show (if 0 = k then _ else _) = _
    rw [if_neg (by omega)]; exact h.sg rfl
  · show (if s + j = k then _ else _) = _
    by_cases e : j = P
    · rw [if_pos (by omega)]
    · rw [if_neg (by omega)]; exact h.ze j (by omega)
theorem Txt.d {f : Nat → Int} {s P m T t : Nat} (h : Txt f s P m T t) {k : Nat} (hk : k = s + P + t) {x : Int} (hx : x = dgt m (T - 1 - t)) : Txt (fun i => if i = k then x else f i) s P m T (t + 1) := by
  refine ⟨fun e => ?_, fun j hj => ?_, fun j hj => ?_⟩
  · subst e
    show (if 0 = k then _ else _) = _
    rw [if_neg (by omega)]; exact h.sg rfl
  · show (if s + j = k then _ else _) = _
    rw [if_neg (by omega)]; exact h.ze j hj
  · show (if s + P + j = k then _ else _) = _
    by_cases e : j = t
    · subst e; rw [if_pos (by omega), hx]
    · rw [if_neg (by omega)]; exact h.di j (by omega)
theorem Txt.T {f : Nat → Int} {s P m : Nat} (h : Txt f s P m 0 0) (T : Nat) : Txt f s P m T 0 := ⟨h.sg, h.ze, fun j hj => by omega⟩

set_option maxRecDepth 100000 in
set_option maxHeartbeats 2000000 in
theorem back_pos (m P : Nat) (hm : m < 1000000000) (hP : P ≤ 16) (w : World) :
    Calls Try.prog 4 #[.int .i64 (m : Int), .int .i64 P] w fun e w' => e = .returned (.bool true) ∧ Below w.heap.size w w' := by
  have R1 : Hid (∃ f, RowB _ w.heap.size 32 f ∧ Txt f 0 0 m 0 0) := ⟨_, row32 w, fun h => by omega, fun j hj => by omega, fun j hj => by omega⟩
  go_enter Try.func4, Try.ntmps4
  go_wp2
  go_loopw [6, 7] (fun kv iv wr => ∃ i k : Nat, i ≤ P ∧ k ≤ 17 ∧ Hid (k = 0 + i) ∧ iv = .int .i64 i ∧ kv = .int .i64 k ∧ Hid (∃ f, RowB wr w.heap.size 32 f ∧ Txt f 0 i m 0 0) ∧ w.heap.size < wr.heap.size ∧ Below w.heap.size w wr) (fun _ iv _ => P - (intOf iv).toNat)
  case atStart => exact ⟨0, 0, by omega, by omega, rfl, rfl, rfl, R1.out, by simp, (Below.refl _ _).alloc (Nat.le_refl _) _⟩
  case round =>
    obtain ⟨i, k, hi, hk17, hk, rfl, rfl, hR, hsz, hB⟩ := hrel
    by_cases hlt : i < P
    · obtain ⟨f, hf, ht⟩ := hR.out
      have c1 := hf.1 k (by omega)
      have c2 := hf.2 k
      have hk32 : (k : Int) < 32 := by omega
      have hlt' : (i : Int) < (P : Int) := by omega
      have N : Hid (∃ f, RowB (wr.setCell ⟨w.heap.size, k, none⟩ (.int .u8 48)) w.heap.size 32 f ∧ Txt f 0 (i + 1) m 0 0) := ⟨_, rowB_set hf (by omega) 48, ht.z hk.out⟩
      clear hf ht hR
      go_wp2
      go_roundw
      case rel => exact ⟨i + 1, k + 1, by omega, by have := hk.out; omega, (by have := hk.out; omega : k + 1 = 0 + (i + 1)), by go_num, by go_num, N, by simpa using hsz, bset hB (Nat.le_refl _)⟩
      case measure => simp [intOf]; omega
    · obtain rfl : i = P := by omega
      clear hlt
      obtain ⟨w1, hw1⟩ : ∃ x, x = wr := ⟨_, rfl⟩
      subst hw1
      have D0 : Hid (RowB _ w1.heap.size 10 (fun _ => 0)) := row10 w1
      have hB1 : Below w1.heap.size w1 _ := (Below.refl w1.heap.size w1).alloc (Nat.le_refl _) (.cells #[.int .u8 0, .int .u8 0, .int .u8 0, .int .u8 0, .int .u8 0, .int .u8 0, .int .u8 0, .int .u8 0, .int .u8 0, .int .u8 0] 28)
      go_wp2
      go_loopw [8, 10] (fun mv nv wr => ∃ t x : Nat, t ≤ 8 ∧ x < 1000000000 ∧ nv = .int .i64 t ∧ mv = .int .i64 x ∧ Hid (x = m / 10 ^ t ∧ (t = 0 ∨ 10 ^ t ≤ m) ∧ ∃ h, RowB wr w1.heap.size 10 h ∧ ∀ j, j < t → h j = dgt m j) ∧ w1.heap.size < wr.heap.size ∧ Below w1.heap.size w1 wr) (fun mv _ _ => (intOf mv).toNat)
      case atStart => exact ⟨0, m, by omega, hm, rfl, rfl, ⟨by simp, .inl rfl, _, D0.out, fun j hj => by omega⟩, by simp, hB1⟩
      case round =>
        obtain ⟨t, x, ht8, hx9, rfl, rfl, hI, hsz2, hB2⟩ := hrel
        obtain ⟨hxd, ht, h, hh, hd⟩ := hI.out
        have c1 := hh.1 t (by omega)
        have c2 := hh.2 t
        have ht10 : (t : Int) < 10 := by omega
        have hdg : (48 + (x : Int) % 10) = dgt m t := by unfold dgt; rw [hxd]; omega
        have N1 : Hid (x / 10 = m / 10 ^ (t + 1) ∧ ∃ h, RowB (wr.setCell ⟨w1.heap.size, t, none⟩ (.int .u8 (48 + (x : Int) % 10))) w1.heap.size 10 h ∧ ∀ j, j < t + 1 → h j = dgt m j) := by
          refine ⟨by rw [hxd, Nat.pow_succ, Nat.div_div_eq_div_mul], _, rowB_set hh (by omega) _, fun j hj => ?_⟩
          by_cases e : j = t
          · subst e; rw [if_pos rfl, hdg]
          · rw [if_neg e]; exact hd j (by omega)
        clear hxd hh hd hdg hI ht
        have hx10 : (x : Int).tdiv 10 = ((x / 10 : Nat) : Int) := by rw [Int.tdiv_eq_ediv_of_nonneg (by omega)]; rfl
        have hxm : (x : Int).tmod 10 = ((x % 10 : Nat) : Int) := by rw [Int.tmod_eq_emod_of_nonneg (by omega)]; rfl
        by_cases hend : x / 10 = 0
        · have he : ((x : Int) / 10 == 0) = true := beq_iff_eq.2 (by omega)
          have HM : Hid (m < 10 ^ (t + 1)) := by
            have h1 := N1.out.1
            rw [hend] at h1
            rcases Nat.div_eq_zero_iff.1 h1.symm with h | h
            · have := Nat.pow_pos (n := t + 1) (show 0 < 10 by omega); omega
            · exact h
          have S3 : Hid (∃ f h, RowB (wr.setCell ⟨w1.heap.size, t, none⟩ (.int .u8 (48 + (x : Int) % 10))) w.heap.size 32 f ∧ Txt f 0 i m (t + 1) 0 ∧ RowB (wr.setCell ⟨w1.heap.size, t, none⟩ (.int .u8 (48 + (x : Int) % 10))) w1.heap.size 10 h ∧ ∀ j, j < t + 1 → h j = dgt m j) := by
            obtain ⟨f, hf, hft⟩ := hR.out
            obtain ⟨_, h, hh, hd⟩ := N1.out
            exact ⟨f, h, rowB_ne (rowB_below hf hB2 hsz) (by omega), hft.T _, hh, hd⟩
          have hBs : Below w.heap.size w (wr.setCell ⟨w1.heap.size, t, none⟩ (.int .u8 (48 + (x : Int) % 10))) := bset (hB.trans (hB2.mono hB.size)) hB.size
          clear hR N1
          go_wp2
          clear c1 c2
          go_loopw [6, 10] (fun kv nv wr => ∃ u v kk : Nat, v ≤ t + 1 ∧ kk ≤ 27 ∧ Hid (kk = 0 + i + u ∧ u + v = t + 1) ∧ nv = .int .i64 v ∧ kv = .int .i64 kk ∧ Hid (∃ f h, RowB wr w.heap.size 32 f ∧ Txt f 0 i m (t + 1) u ∧ RowB wr w1.heap.size 10 h ∧ ∀ j, j < t + 1 → h j = dgt m j) ∧ Below w.heap.size w wr) (fun _ nv _ => (intOf nv).toNat)
          case atStart => exact ⟨0, t + 1, k, by omega, by omega, ⟨by have := hk.out; omega, by omega⟩, by go_num, rfl, S3.out, hBs⟩
          case round =>
            obtain ⟨u, v, kk, hv, hkk, HK, rfl, rfl, hS, hB3⟩ := hrel
            by_cases hv0 : 0 < v
            · obtain ⟨v, rfl⟩ : ∃ n, v = n + 1 := ⟨v - 1, by omega⟩
              have hk26 : kk < 27 := by have := HK.out; omega
              obtain ⟨f, h, hf, hft, hh, hd⟩ := hS.out
              have d1 : wr.cell? ⟨w1.heap.size, v, none⟩ = some (.int .u8 (dgt m v)) := by rw [hh.1 v (by omega), hd v (by omega)]
              have d2 := hf.1 kk (by omega)
              have d3 := hf.2 kk
              have hv10 : (v : Int) < 10 := by omega
              have hk32 : (kk : Int) < 32 := by omega
              have N : Hid (∃ f h, RowB (wr.setCell ⟨w.heap.size, kk, none⟩ (.int .u8 (dgt m v))) w.heap.size 32 f ∧ Txt f 0 i m (t + 1) (u + 1) ∧ RowB (wr.setCell ⟨w.heap.size, kk, none⟩ (.int .u8 (dgt m v))) w1.heap.size 10 h ∧ ∀ j, j < t + 1 → h j = dgt m j) :=
                ⟨_, h, rowB_set hf (by omega) _, hft.d HK.out.1 (by have := HK.out; rw [show t + 1 - 1 - u = v from by omega]), rowB_ne hh (by omega), hd⟩
              clear hf hft hh hd hS
              go_wp2
              go_roundw
              case rel => exact ⟨u + 1, v, kk + 1, by omega, by omega, ⟨by have := HK.out; omega, by have := HK.out; omega⟩, by go_num, by go_num, N, bset hB3 (Nat.le_refl _)⟩
              case measure => simp [intOf]
            · obtain rfl : v = 0 := by omega
              obtain ⟨f, h, hf, hft, hh, hd⟩ := hS.out
              have hu : u = t + 1 := by have := HK.out; omega
              subst hu
              have hsl := run_sl32 w.heap.size kk (by omega)
              have HA : Hid (∀ r ok, Ans (Good f kk) (ansv f kk) r ok → (i + (t + 1) ≤ 9 ∧ ok = true ∧ r = if 0 = 1 then -(m : Int) else (m : Int)) ∨ (9 < i + (t + 1) ∧ ok = false ∧ r = 0)) := fun r ok ha => by
                rw [HK.out.1] at ha
                exact hft.out (by omega) (by omega) HM.out ha
              have HF : Hid ((∀ j, j < kk → wr.cell? ⟨w.heap.size, j, none⟩ = some (.int .u8 (f j))) ∧ ∀ j, j < kk → 0 ≤ f j ∧ f j ≤ 255) :=
                ⟨fun j hj => hf.1 j (by omega), fun j hj => hft.byte (by omega) j (by have := HK.out; omega)⟩
              clear hf hft hh hd hS
              go_wp2_with fail
              refine (zz_any w.heap.size kk 32 f wr HF.out.1 (by omega) HF.out.2).mono ?_
              rintro e w' ⟨r, ok, rfl, ha, q, rfl⟩
              rcases HA.out r ok ha with ⟨hle, rfl, hr⟩ | ⟨hlt, rfl, rfl⟩
              · have hr' : r = (m : Int) := by rw [hr, if_neg (by omega)]
                clear hr
                subst hr'
                have hle' : (i : Int) + ((t : Int) + 1) ≤ 9 := by omega
                go_wp2_with fail
                go_ret
                exact ⟨rfl, below_drewN hB3 _⟩
              · have hlt' : ¬ (i : Int) + ((t : Int) + 1) ≤ 9 := by omega
                go_wp2_with fail
                go_ret
                exact ⟨rfl, below_drewN hB3 _⟩
        · have he : ((x : Int) / 10 == 0) = false := beq_eq_false_iff_ne.2 (by omega)
          have N : Hid (x / 10 = m / 10 ^ (t + 1) ∧ (t + 1 = 0 ∨ 10 ^ (t + 1) ≤ m) ∧ ∃ h, RowB (wr.setCell ⟨w1.heap.size, t, none⟩ (.int .u8 (48 + (x : Int) % 10))) w1.heap.size 10 h ∧ ∀ j, j < t + 1 → h j = dgt m j) :=
            ⟨N1.out.1, .inr (by have h1 := N1.out.1; rw [h1] at hend; exact (Nat.div_pos_iff.1 (Nat.pos_of_ne_zero hend)).2), N1.out.2⟩
          have ht9 : t + 1 ≤ 8 := by
            have h1 : 10 ^ (t + 1) ≤ m := by rcases N.out.2.1 with h | h <;> omega
            have := pow_lt9 hm h1; omega
          clear N1
          go_wp2
          go_roundw
          case rel => exact ⟨t + 1, x / 10, by omega, by omega, by go_num, by go_num, N, by simpa using hsz2, bset hB2 (Nat.le_refl _)⟩
          case measure => simp [intOf]; omega

set_option maxRecDepth 100000 in
set_option maxHeartbeats 2000000 in
theorem back_neg (m P : Nat) (n : Int) (hn0 : n < 0) (hn1 : -1000000000 < n) (hnm : Hid (n = -(m : Int))) (hm : m < 1000000000) (hP : P ≤ 16) (w : World) :
    Calls Try.prog 4 #[.int .i64 n, .int .i64 P] w fun e w' => e = .returned (.bool true) ∧ Below w.heap.size w w' := by
  have R1 : Hid (∃ f, RowB _ w.heap.size 32 f ∧ Txt f 1 0 m 0 0) := ⟨_, row32n w, fun _ => rfl, fun j hj => by omega, fun j hj => by omega⟩
  go_enter Try.func4, Try.ntmps4
  go_wp2
  go_loopw [6, 7] (fun kv iv wr => ∃ i k : Nat, i ≤ P ∧ k ≤ 17 ∧ Hid (k = 1 + i) ∧ iv = .int .i64 i ∧ kv = .int .i64 k ∧ Hid (∃ f, RowB wr w.heap.size 32 f ∧ Txt f 1 i m 0 0) ∧ w.heap.size < wr.heap.size ∧ Below w.heap.size w wr) (fun _ iv _ => P - (intOf iv).toNat)
  case atStart => exact ⟨0, 1, by omega, by omega, rfl, rfl, rfl, R1.out, by simp, (Below.refl _ _).alloc (Nat.le_refl _) _⟩
  case round =>
    obtain ⟨i, k, hi, hk17, hk, rfl, rfl, hR, hsz, hB⟩ := hrel
    by_cases hlt : i < P
    · obtain ⟨f, hf, ht⟩ := hR.out
      have c1 := hf.1 k (by omega)
      have c2 := hf.2 k
      have hk32 : (k : Int) < 32 := by omega
      have hlt' : (i : Int) < (P : Int) := by omega
      have N : Hid (∃ f, RowB (wr.setCell ⟨w.heap.size, k, none⟩ (.int .u8 48)) w.heap.size 32 f ∧ Txt f 1 (i + 1) m 0 0) := ⟨_, rowB_set hf (by omega) 48, ht.z hk.out⟩
      clear hf ht hR
      go_wp2
      go_roundw
      case rel => exact ⟨i + 1, k + 1, by omega, by have := hk.out; omega, (by have := hk.out; omega : k + 1 = 1 + (i + 1)), by go_num, by go_num, N, by simpa using hsz, bset hB (Nat.le_refl _)⟩
      case measure => simp [intOf]; omega
    · obtain rfl : i = P := by omega
      clear hlt
      obtain ⟨w1, hw1⟩ : ∃ x, x = wr := ⟨_, rfl⟩
      subst hw1
      have D0 : Hid (RowB _ w1.heap.size 10 (fun _ => 0)) := row10 w1
      have hB1 : Below w1.heap.size w1 _ := (Below.refl w1.heap.size w1).alloc (Nat.le_refl _) (.cells #[.int .u8 0, .int .u8 0, .int .u8 0, .int .u8 0, .int .u8 0, .int .u8 0, .int .u8 0, .int .u8 0, .int .u8 0, .int .u8 0] 28)
      have hneg : 0 - n = (m : Int) := by have := hnm.out; omega
      have hneg2 : -n = (m : Int) := by omega
      go_wp2
      go_loopw [8, 10] (fun mv nv wr => ∃ t x : Nat, t ≤ 8 ∧ x < 1000000000 ∧ nv = .int .i64 t ∧ mv = .int .i64 x ∧ Hid (x = m / 10 ^ t ∧ (t = 0 ∨ 10 ^ t ≤ m) ∧ ∃ h, RowB wr w1.heap.size 10 h ∧ ∀ j, j < t → h j = dgt m j) ∧ w1.heap.size < wr.heap.size ∧ Below w1.heap.size w1 wr) (fun mv _ _ => (intOf mv).toNat)
      case atStart => exact ⟨0, m, by omega, hm, rfl, rfl, ⟨by simp, .inl rfl, _, D0.out, fun j hj => by omega⟩, by simp, hB1⟩
      case round =>
        obtain ⟨t, x, ht8, hx9, rfl, rfl, hI, hsz2, hB2⟩ := hrel
        obtain ⟨hxd, ht, h, hh, hd⟩ := hI.out
        have c1 := hh.1 t (by omega)
        have c2 := hh.2 t
        have ht10 : (t : Int) < 10 := by omega
        have hdg : (48 + (x : Int) % 10) = dgt m t := by unfold dgt; rw [hxd]; omega
        have N1 : Hid (x / 10 = m / 10 ^ (t + 1) ∧ ∃ h, RowB (wr.setCell ⟨w1.heap.size, t, none⟩ (.int .u8 (48 + (x : Int) % 10))) w1.heap.size 10 h ∧ ∀ j, j < t + 1 → h j = dgt m j) := by
          refine ⟨by rw [hxd, Nat.pow_succ, Nat.div_div_eq_div_mul], _, rowB_set hh (by omega) _, fun j hj => ?_⟩
          by_cases e : j = t
          · subst e; rw [if_pos rfl, hdg]
          · rw [if_neg e]; exact hd j (by omega)
        clear hxd hh hd hdg hI ht
        have hx10 : (x : Int).tdiv 10 = ((x / 10 : Nat) : Int) := by rw [Int.tdiv_eq_ediv_of_nonneg (by omega)]; rfl
        have hxm : (x : Int).tmod 10 = ((x % 10 : Nat) : Int) := by rw [Int.tmod_eq_emod_of_nonneg (by omega)]; rfl
        by_cases hend : x / 10 = 0
        · have he : ((x : Int) / 10 == 0) = true := beq_iff_eq.2 (by omega)
          have HM : Hid (m < 10 ^ (t + 1)) := by
            have h1 := N1.out.1
            rw [hend] at h1
            rcases Nat.div_eq_zero_iff.1 h1.symm with h | h
            · have := Nat.pow_pos (n := t + 1) (show 0 < 10 by omega); omega
            · exact h
          have S3 : Hid (∃ f h, RowB (wr.setCell ⟨w1.heap.size, t, none⟩ (.int .u8 (48 + (x : Int) % 10))) w.heap.size 32 f ∧ Txt f 1 i m (t + 1) 0 ∧ RowB (wr.setCell ⟨w1.heap.size, t, none⟩ (.int .u8 (48 + (x : Int) % 10))) w1.heap.size 10 h ∧ ∀ j, j < t + 1 → h j = dgt m j) := by
            obtain ⟨f, hf, hft⟩ := hR.out
            obtain ⟨_, h, hh, hd⟩ := N1.out
            exact ⟨f, h, rowB_ne (rowB_below hf hB2 hsz) (by omega), hft.T _, hh, hd⟩
          have hBs : Below w.heap.size w (wr.setCell ⟨w1.heap.size, t, none⟩ (.int .u8 (48 + (x : Int) % 10))) := bset (hB.trans (hB2.mono hB.size)) hB.size
          clear hR N1
          go_wp2
          clear c1 c2
          go_loopw [6, 10] (fun kv nv wr => ∃ u v kk : Nat, v ≤ t + 1 ∧ kk ≤ 27 ∧ Hid (kk = 1 + i + u ∧ u + v = t + 1) ∧ nv = .int .i64 v ∧ kv = .int .i64 kk ∧ Hid (∃ f h, RowB wr w.heap.size 32 f ∧ Txt f 1 i m (t + 1) u ∧ RowB wr w1.heap.size 10 h ∧ ∀ j, j < t + 1 → h j = dgt m j) ∧ Below w.heap.size w wr) (fun _ nv _ => (intOf nv).toNat)
          case atStart => exact ⟨0, t + 1, k, by omega, by omega, ⟨by have := hk.out; omega, by omega⟩, by go_num, rfl, S3.out, hBs⟩
          case round =>
            obtain ⟨u, v, kk, hv, hkk, HK, rfl, rfl, hS, hB3⟩ := hrel
            by_cases hv0 : 0 < v
            · obtain ⟨v, rfl⟩ : ∃ n, v = n + 1 := ⟨v - 1, by omega⟩
              have hk26 : kk < 27 := by have := HK.out; omega
              obtain ⟨f, h, hf, hft, hh, hd⟩ := hS.out
              have d1 : wr.cell? ⟨w1.heap.size, v, none⟩ = some (.int .u8 (dgt m v)) := by rw [hh.1 v (by omega), hd v (by omega)]
              have d2 := hf.1 kk (by omega)
              have d3 := hf.2 kk
              have hv10 : (v : Int) < 10 := by omega
              have hk32 : (kk : Int) < 32 := by omega
              have N : Hid (∃ f h, RowB (wr.setCell ⟨w.heap.size, kk, none⟩ (.int .u8 (dgt m v))) w.heap.size 32 f ∧ Txt f 1 i m (t + 1) (u + 1) ∧ RowB (wr.setCell ⟨w.heap.size, kk, none⟩ (.int .u8 (dgt m v))) w1.heap.size 10 h ∧ ∀ j, j < t + 1 → h j = dgt m j) :=
                ⟨_, h, rowB_set hf (by omega) _, hft.d HK.out.1 (by have := HK.out; rw [show t + 1 - 1 - u = v from by omega]), rowB_ne hh (by omega), hd⟩
              clear hf hft hh hd hS
              go_wp2
              go_roundw
              case rel => exact ⟨u + 1, v, kk + 1, by omega, by omega, ⟨by have := HK.out; omega, by have := HK.out; omega⟩, by go_num, by go_num, N, bset hB3 (Nat.le_refl _)⟩
              case measure => simp [intOf]
            · obtain rfl : v = 0 := by omega
              obtain ⟨f, h, hf, hft, hh, hd⟩ := hS.out
              have hu : u = t + 1 := by have := HK.out; omega
              subst hu
              have hsl := run_sl32 w.heap.size kk (by omega)
              have HA : Hid (∀ r ok, Ans (Good f kk) (ansv f kk) r ok → (i + (t + 1) ≤ 9 ∧ ok = true ∧ r = if 1 = 1 then -(m : Int) else (m : Int)) ∨ (9 < i + (t + 1) ∧ ok = false ∧ r = 0)) := fun r ok ha => by
                rw [HK.out.1] at ha
                exact hft.out (by omega) (by omega) HM.out ha
              have HF : Hid ((∀ j, j < kk → wr.cell? ⟨w.heap.size, j, none⟩ = some (.int .u8 (f j))) ∧ ∀ j, j < kk → 0 ≤ f j ∧ f j ≤ 255) :=
                ⟨fun j hj => hf.1 j (by omega), fun j hj => hft.byte (by omega) j (by have := HK.out; omega)⟩
              clear hf hft hh hd hS
              go_wp2_with fail
              refine (zz_any w.heap.size kk 32 f wr HF.out.1 (by omega) HF.out.2).mono ?_
              rintro e w' ⟨r, ok, rfl, ha, q, rfl⟩
              rcases HA.out r ok ha with ⟨hle, rfl, hr⟩ | ⟨hlt, rfl, rfl⟩
              · have hr' : r = n := by have h := hnm.out; simp at hr; omega
                clear hr
                subst hr'
                have hle' : (i : Int) + ((t : Int) + 1) ≤ 9 := by omega
                go_wp2_with fail
                go_ret
                exact ⟨rfl, below_drewN hB3 _⟩
              · have hlt' : ¬ (i : Int) + ((t : Int) + 1) ≤ 9 := by omega
                go_wp2_with fail
                go_ret
                exact ⟨rfl, below_drewN hB3 _⟩
        · have he : ((x : Int) / 10 == 0) = false := beq_eq_false_iff_ne.2 (by omega)
          have N : Hid (x / 10 = m / 10 ^ (t + 1) ∧ (t + 1 = 0 ∨ 10 ^ (t + 1) ≤ m) ∧ ∃ h, RowB (wr.setCell ⟨w1.heap.size, t, none⟩ (.int .u8 (48 + (x : Int) % 10))) w1.heap.size 10 h ∧ ∀ j, j < t + 1 → h j = dgt m j) :=
            ⟨N1.out.1, .inr (by have h1 := N1.out.1; rw [h1] at hend; exact (Nat.div_pos_iff.1 (Nat.pos_of_ne_zero hend)).2), N1.out.2⟩
          have ht9 : t + 1 ≤ 8 := by
            have h1 : 10 ^ (t + 1) ≤ m := by rcases N.out.2.1 with h | h <;> omega
            have := pow_lt9 hm h1; omega
          clear N1
          go_wp2
          go_roundw
          case rel => exact ⟨t + 1, x / 10, by omega, by omega, by go_num, by go_num, N, by simpa using hsz2, bset hB2 (Nat.le_refl _)⟩
          case measure => simp [intOf]; omega
end Go.Proofs.Qxb6603754a
