import Derived.Test.Qxb6602616aW5
import Derived.LoopTactic
namespace Go.Proofs.Qxb6602616a
open Go.RowKit Fl
attribute [local go_sem] run_fadd run_fsub run_fmul run_fquo run_store_float setCell_drewN alloc_drewN ord_eq ord_ne ord_lt ord_gt ord_le ord_ge

theorem le_fq {a b : Nat} (h1 : nn a = true) (h : ∀ t, FR .add b 4607182418800017408 t → nn t = true ∧ sv a ≤ sv t) (w : World) : fle a (fq .add b 4607182418800017408 w) = true := by
  have := h _ (fq_FR .add b 4607182418800017408 w)
  exact fle_mk h1 this.1 this.2
theorem ge_one {a : Nat} (h1 : nn a = true) (h : (2 : Int) ^ 1074 ≤ sv a) : fge a 4607182418800017408 = true := fge_mk h1 (fin_nn fin_one) (by rw [sv_one]; exact h)
theorem ge_zero {a : Nat} (h1 : nn a = true) (h : 0 ≤ sv a) : fge a 0 = true := fge_mk h1 nn_zero (by rw [sv_zero]; exact h)
theorem feq_zero : feq 0 0 = true := by decide +kernel
/-- what holds ahead of quiet run j -/
def Inv (F k j : Int) (s : Bool) (rv rw : Nat) (q : Int) (e : Nat) : Prop := (j ≤ k ∧ InvA F j s rv rw q e) ∨ (k < j ∧ InvB k j s rv rw q e)
theorem kOf_is {F : Int} (h : F < 20) : (20 + F - 1) / F = kOf F := by unfold kOf; rw [if_pos h]
theorem kOf_one {F : Int} (h : ¬ F < 20) : kOf F = 1 := by unfold kOf; rw [if_neg h]

set_option maxRecDepth 100000 in
set_option maxHeartbeats 4000000 in
theorem stops_t_small (F : Int) (rv rw : Nat) (q : Int) (ex : Nat) (n : Int) (w : World) (hn0 : 0 ≤ n) (hn1 : n ≤ 65536) (hF1 : 1 ≤ F) (hF2 : F ≤ 9223372036854775807) (hF20 : F < 20)
    (hrv : feq rv (floatOfInt .f64 F) = true) (hrw : fge rw 0 = true) (hex : fin ex = true) :
    Calls Try.prog 3 #[.int .i64 F, .bool true, .float .f64 rv, .float .f64 rw, .int .i64 q, .float .f64 ex, .int .i64 n] w fun e w' => e = .returned (.bool true) ∧ Below w.heap.size w w' := by
  have hA := feq_of hrv
  have hB := fge_of hrw
  rw [sv_zero] at hB
  have HA : Hid (nn rv = true ∧ sv rv = sv (floatOfInt .f64 F)) := ⟨hA.1, hA.2.2⟩
  have HB : Hid (nn rw = true ∧ 0 ≤ sv rw) := ⟨hB.1, hB.2.2⟩
  have HK : Hid (kOf F = kOf F) := rfl
  clear hA hB
  go_enter Try.func3, Try.ntmps3
  go_wp2_with (go_at_call 8; go_loud (refine (fin8 _ _).mono ?_); rintro e w' ⟨rfl, m, rfl⟩)
  refine (zzrun9 F true rv rw q ex _ (.inl (by omega))).mono ?_
  rintro e w1 ⟨stop, s2, rv2, rw2, q2, e2, hWR, rfl, hb⟩
  obtain ⟨rfl, rfl, rfl, rfl, g1, g2, g3, g4, g5, g6⟩ := step_first hF1 hF2 HA.out.1 HA.out.2 HB.out.1 HB.out.2 hex hWR
  have t1 : feq rv2 rv = true := feq_mk g1 HA.out.1 g2
  have t2 : feq e2 e2 = true := feq_mk (fin_nn hex) (fin_nn hex) rfl
  have G : Hid (fin rv2 = true ∧ sv rv2 = sv (floatOfInt .f64 F) ∧ nn rw2 = true ∧ 0 ≤ sv rw2) := ⟨fin_of_feq g1 (int_fin (by omega) hF2).1 (g2.trans HA.out.2), g2.trans HA.out.2, g3, g4⟩
  have t3 := ge_one g3 (g5 rfl).1
  have t4 := le_fq g3 (g5 rfl).2
  clear hWR g1 g2 g3 g4 g5 g6
  go_wp2_with fail
  have hk := kOf_pos hF1
  have ek := kOf_is hF20
  rw [ek]
  clear ek
  go_loopw [17, 18, 19, 20, 21, 23] (fun s a b q e i w' => ∃ (j : Int) (s' : Bool) (a' b' : Nat) (q' : Int) (e' : Nat), s = .bool s' ∧ a = .float .f64 a' ∧ b = .float .f64 b' ∧ q = .int .i64 q' ∧ e = .float .f64 e' ∧ i = .int .i64 j ∧ 1 ≤ j ∧ j ≤ n + 1 ∧
      Hid (Inv F (kOf F) j s' a' b' q' e') ∧ Below w.heap.size w w') (fun _ _ _ _ _ i _ => (n + 1 - intOf i).toNat)
  case atStart =>
    exact ⟨1, true, rv2, rw2, 0, e2, rfl, rfl, rfl, rfl, rfl, rfl, by omega, by omega, .inl ⟨by omega, rfl, G.out.1, by rw [G.out.2.1]; exact int_ge0 (by omega), G.out.2.2.1, G.out.2.2.2, rfl, fun _ => G.out.2.1, fun h => absurd rfl h⟩, bdrewN ((bdrewN (Below.refl _ _)).trans hb)⟩
  case round =>
    obtain ⟨j, s', a', b', q', e', rfl, rfl, rfl, rfl, rfl, rfl, hj1, hj2, hI, hB⟩ := hrel
    clear t1 t2 t3 t4
    by_cases hlt : j ≤ n
    · rcases hI.out with ⟨hjk, hA⟩ | ⟨hjk, rfl, rfl, rfl, hq, rfl⟩
      · have HA2 : Hid (InvA F j s' a' b' q' e') := hA
        have hq := hA.2.2.2.2.2.1
        have hq0 : 0 ≤ q' ∧ q' ≤ 4611686018427387904 := by omega
        clear hA hq hI
        by_cases hjl : j < kOf F
        · go_wp2_with fail
          refine (zzrun9 0 s' a' b' q' e' _ (.inr hq0)).mono ?_
          rintro e w3 ⟨stop, s2, rv3, rw3, q2, e3, hWR, rfl, hb3⟩
          obtain ⟨rfl, rfl, rfl, g1, g2, g3, g4, g5, g6, g7, g8, g9⟩ := stepA_lt hF1 hF2 hj1 hjl HA2.out hWR
          have u1 : feq e3 rv = true := feq_mk g1 HA.out.1 (g2.trans HA.out.2.symm)
          have u2 := ge_zero g3 g4
          have u3 : fle rv3 a' = true := fle_mk g3 (fin_nn HA2.out.2.1) g5
          have u4 := ge_one g6 g7
          have u5 := le_fq g6 g8
          have NI : Hid (Inv F (kOf F) (q2 + 1) true rv3 rw3 q2 e3) := .inl ⟨by omega, g9⟩
          clear hWR g1 g2 g3 g4 g5 g6 g7 g8 g9 HA2
          go_wp2_with fail
          go_roundw
          case rel => exact ⟨q2 + 1, true, rv3, rw3, q2, e3, rfl, rfl, rfl, rfl, rfl, rfl, by omega, by omega, NI, bdrewN (hB.trans (hb3.mono hB.size))⟩
          case measure => simp [intOf]; omega
        · have hje : j = kOf F := by omega
          have HJ : Hid (j = kOf F) := hje
          have hjb : (j == kOf F) = true := beq_iff_eq.2 hje
          clear hje
          go_wp2_with fail
          refine (zzrun9 0 s' a' b' q' e' _ (.inr hq0)).mono ?_
          rintro e w3 ⟨stop, s2, rv3, rw3, q2, e3, hWR, rfl, hb3⟩
          obtain ⟨rfl, rfl, rfl, rfl, rfl, rfl⟩ := stepA_eq hF1 hF2 HJ.out HA2.out hWR
          have u1 := feq_zero
          clear hWR HA2
          go_wp2_with fail
          go_roundw
          case rel => exact ⟨j + 1, false, 0, 0, 0, 0, rfl, rfl, rfl, rfl, rfl, rfl, by omega, by omega, .inr ⟨by omega, rfl, rfl, rfl, by omega, rfl⟩, hB.trans (hb3.mono hB.size)⟩
          case measure => simp [intOf]; omega
      · have hq0 : 0 ≤ q' ∧ q' ≤ 4611686018427387904 := by omega
        have hjb : (j == kOf F) = false := beq_eq_false_iff_ne.2 (by omega)
        have HQ : Hid (q' = j - 1 - kOf F) := hq
        clear hI hq
        go_wp2_with fail
        refine (zzrun9 0 false 0 0 q' 0 _ (.inr hq0)).mono ?_
        rintro e w3 ⟨stop, s2, rv3, rw3, q2, e3, hWR, rfl, hb3⟩
        obtain ⟨rfl, rfl, rfl, rfl, rfl, rfl⟩ := stepB zero_not hq0.1 hq0.2 hWR
        have u1 := feq_zero
        have u2 : q' + 1 ≤ j - kOf F := by have := HQ.out; omega
        have u3 : j - kOf F ≤ q' + 1 := by have := HQ.out; omega
        clear hWR
        go_wp2_with fail
        go_roundw
        case rel => exact ⟨j + 1, false, 0, 0, j - kOf F, 0, rfl, rfl, rfl, rfl, rfl, rfl, by omega, by omega, .inr ⟨by omega, rfl, rfl, rfl, by omega, rfl⟩, hB.trans (hb3.mono hB.size)⟩
        case measure => simp [intOf]; omega
    · go_wp2_with fail
      go_ret
      exact ⟨rfl, hB⟩

set_option maxRecDepth 100000 in
set_option maxHeartbeats 4000000 in
theorem stops_t_big (F : Int) (rv rw : Nat) (q : Int) (ex : Nat) (n : Int) (w : World) (hn0 : 0 ≤ n) (hn1 : n ≤ 65536) (hF1 : 1 ≤ F) (hF2 : F ≤ 9223372036854775807) (hF20 : ¬ F < 20)
    (hrv : feq rv (floatOfInt .f64 F) = true) (hrw : fge rw 0 = true) (hex : fin ex = true) :
    Calls Try.prog 3 #[.int .i64 F, .bool true, .float .f64 rv, .float .f64 rw, .int .i64 q, .float .f64 ex, .int .i64 n] w fun e w' => e = .returned (.bool true) ∧ Below w.heap.size w w' := by
  have hA := feq_of hrv
  have hB := fge_of hrw
  rw [sv_zero] at hB
  have HA : Hid (nn rv = true ∧ sv rv = sv (floatOfInt .f64 F)) := ⟨hA.1, hA.2.2⟩
  have HB : Hid (nn rw = true ∧ 0 ≤ sv rw) := ⟨hB.1, hB.2.2⟩
  have HK : Hid (kOf F = 1) := kOf_one hF20
  clear hA hB
  go_enter Try.func3, Try.ntmps3
  go_wp2_with (go_at_call 8; go_loud (refine (fin8 _ _).mono ?_); rintro e w' ⟨rfl, m, rfl⟩)
  refine (zzrun9 F true rv rw q ex _ (.inl (by omega))).mono ?_
  rintro e w1 ⟨stop, s2, rv2, rw2, q2, e2, hWR, rfl, hb⟩
  obtain ⟨rfl, rfl, rfl, rfl, g1, g2, g3, g4, g5, g6⟩ := step_first hF1 hF2 HA.out.1 HA.out.2 HB.out.1 HB.out.2 hex hWR
  have t1 : feq rv2 rv = true := feq_mk g1 HA.out.1 g2
  have t2 : feq e2 e2 = true := feq_mk (fin_nn hex) (fin_nn hex) rfl
  have G : Hid (fin rv2 = true ∧ sv rv2 = sv (floatOfInt .f64 F) ∧ nn rw2 = true ∧ 0 ≤ sv rw2) := ⟨fin_of_feq g1 (int_fin (by omega) hF2).1 (g2.trans HA.out.2), g2.trans HA.out.2, g3, g4⟩
  have t3 := ge_one g3 (g5 rfl).1
  have t4 := le_fq g3 (g5 rfl).2
  clear hWR g1 g2 g3 g4 g5 g6
  go_wp2_with fail
  go_loopw [17, 18, 19, 20, 21, 23] (fun s a b q e i w' => ∃ (j : Int) (s' : Bool) (a' b' : Nat) (q' : Int) (e' : Nat), s = .bool s' ∧ a = .float .f64 a' ∧ b = .float .f64 b' ∧ q = .int .i64 q' ∧ e = .float .f64 e' ∧ i = .int .i64 j ∧ 1 ≤ j ∧ j ≤ n + 1 ∧
      Hid (Inv F (1) j s' a' b' q' e') ∧ Below w.heap.size w w') (fun _ _ _ _ _ i _ => (n + 1 - intOf i).toNat)
  case atStart =>
    exact ⟨1, true, rv2, rw2, 0, e2, rfl, rfl, rfl, rfl, rfl, rfl, by omega, by omega, .inl ⟨by omega, rfl, G.out.1, by rw [G.out.2.1]; exact int_ge0 (by omega), G.out.2.2.1, G.out.2.2.2, rfl, fun _ => G.out.2.1, fun h => absurd rfl h⟩, bdrewN ((bdrewN (Below.refl _ _)).trans hb)⟩
  case round =>
    obtain ⟨j, s', a', b', q', e', rfl, rfl, rfl, rfl, rfl, rfl, hj1, hj2, hI, hB⟩ := hrel
    clear t1 t2 t3 t4
    by_cases hlt : j ≤ n
    · rcases hI.out with ⟨hjk, hA⟩ | ⟨hjk, rfl, rfl, rfl, hq, rfl⟩
      · have HA2 : Hid (InvA F j s' a' b' q' e') := hA
        have hq := hA.2.2.2.2.2.1
        have hq0 : 0 ≤ q' ∧ q' ≤ 4611686018427387904 := by omega
        clear hA hq hI
        obtain rfl : j = 1 := by omega
        go_wp2_with fail
        refine (zzrun9 0 s' a' b' q' e' _ (.inr hq0)).mono ?_
        rintro e w3 ⟨stop, s2, rv3, rw3, q2, e3, hWR, rfl, hb3⟩
        obtain ⟨rfl, rfl, rfl, rfl, rfl, rfl⟩ := stepA_eq hF1 hF2 HK.out.symm HA2.out hWR
        have u1 := feq_zero
        clear hWR HA2
        go_wp2_with fail
        go_roundw
        case rel => exact ⟨2, false, 0, 0, 0, 0, rfl, rfl, rfl, rfl, rfl, rfl, by omega, by omega, .inr ⟨by omega, rfl, rfl, rfl, by omega, rfl⟩, hB.trans (hb3.mono hB.size)⟩
        case measure => simp [intOf]; omega
      · have hq0 : 0 ≤ q' ∧ q' ≤ 4611686018427387904 := by omega
        have hjb : (j == 1) = false := beq_eq_false_iff_ne.2 (by omega)
        have HQ : Hid (q' = j - 1 - 1) := hq
        clear hI hq
        go_wp2_with fail
        refine (zzrun9 0 false 0 0 q' 0 _ (.inr hq0)).mono ?_
        rintro e w3 ⟨stop, s2, rv3, rw3, q2, e3, hWR, rfl, hb3⟩
        obtain ⟨rfl, rfl, rfl, rfl, rfl, rfl⟩ := stepB zero_not hq0.1 hq0.2 hWR
        have u1 := feq_zero
        have u2 : q' + 1 ≤ j - 1 := by have := HQ.out; omega
        have u3 : j - 1 ≤ q' + 1 := by have := HQ.out; omega
        clear hWR
        go_wp2_with fail
        go_roundw
        case rel => exact ⟨j + 1, false, 0, 0, j - 1, 0, rfl, rfl, rfl, rfl, rfl, rfl, by omega, by omega, .inr ⟨by omega, rfl, rfl, rfl, by omega, rfl⟩, hB.trans (hb3.mono hB.size)⟩
        case measure => simp [intOf]; omega
    · go_wp2_with fail
      go_ret
      exact ⟨rfl, hB⟩

set_option maxRecDepth 100000 in
set_option maxHeartbeats 4000000 in
theorem stops_f_small (F : Int) (rv rw : Nat) (q : Int) (ex : Nat) (n : Int) (w : World) (hn0 : 0 ≤ n) (hn1 : n ≤ 65536) (hF1 : 1 ≤ F) (hF2 : F ≤ 9223372036854775807) (hF20 : F < 20)
    (hrv : feq rv (floatOfInt .f64 F) = true) (hrw : fge rw 0 = true) (hex : fin ex = true) :
    Calls Try.prog 3 #[.int .i64 F, .bool false, .float .f64 rv, .float .f64 rw, .int .i64 q, .float .f64 ex, .int .i64 n] w fun e w' => e = .returned (.bool true) ∧ Below w.heap.size w w' := by
  have hA := feq_of hrv
  have hB := fge_of hrw
  rw [sv_zero] at hB
  have HA : Hid (nn rv = true ∧ sv rv = sv (floatOfInt .f64 F)) := ⟨hA.1, hA.2.2⟩
  have HB : Hid (nn rw = true ∧ 0 ≤ sv rw) := ⟨hB.1, hB.2.2⟩
  have HK : Hid (kOf F = kOf F) := rfl
  clear hA hB
  go_enter Try.func3, Try.ntmps3
  go_wp2_with (go_at_call 8; go_loud (refine (fin8 _ _).mono ?_); rintro e w' ⟨rfl, m, rfl⟩)
  refine (zzrun9 F false rv rw q ex _ (.inl (by omega))).mono ?_
  rintro e w1 ⟨stop, s2, rv2, rw2, q2, e2, hWR, rfl, hb⟩
  obtain ⟨rfl, rfl, rfl, rfl, g1, g2, g3, g4, g5, g6⟩ := step_first hF1 hF2 HA.out.1 HA.out.2 HB.out.1 HB.out.2 hex hWR
  have t1 : feq rv2 rv = true := feq_mk g1 HA.out.1 g2
  have t2 : feq e2 e2 = true := feq_mk (fin_nn hex) (fin_nn hex) rfl
  have G : Hid (fin rv2 = true ∧ sv rv2 = sv (floatOfInt .f64 F) ∧ nn rw2 = true ∧ 0 ≤ sv rw2) := ⟨fin_of_feq g1 (int_fin (by omega) hF2).1 (g2.trans HA.out.2), g2.trans HA.out.2, g3, g4⟩
  obtain rfl := g6 rfl
  have t3 : feq rw2 rw2 = true := feq_mk g3 g3 rfl
  clear hWR g1 g2 g3 g4 g5 g6
  go_wp2_with fail
  have hk := kOf_pos hF1
  have ek := kOf_is hF20
  rw [ek]
  clear ek
  go_loopw [17, 18, 19, 20, 21, 23] (fun s a b q e i w' => ∃ (j : Int) (s' : Bool) (a' b' : Nat) (q' : Int) (e' : Nat), s = .bool s' ∧ a = .float .f64 a' ∧ b = .float .f64 b' ∧ q = .int .i64 q' ∧ e = .float .f64 e' ∧ i = .int .i64 j ∧ 1 ≤ j ∧ j ≤ n + 1 ∧
      Hid (Inv F (kOf F) j s' a' b' q' e') ∧ Below w.heap.size w w') (fun _ _ _ _ _ i _ => (n + 1 - intOf i).toNat)
  case atStart =>
    exact ⟨1, true, rv2, rw2, 0, e2, rfl, rfl, rfl, rfl, rfl, rfl, by omega, by omega, .inl ⟨by omega, rfl, G.out.1, by rw [G.out.2.1]; exact int_ge0 (by omega), G.out.2.2.1, G.out.2.2.2, rfl, fun _ => G.out.2.1, fun h => absurd rfl h⟩, (bdrewN (Below.refl _ _)).trans hb⟩
  case round =>
    obtain ⟨j, s', a', b', q', e', rfl, rfl, rfl, rfl, rfl, rfl, hj1, hj2, hI, hB⟩ := hrel
    clear t1 t2 t3
    by_cases hlt : j ≤ n
    · rcases hI.out with ⟨hjk, hA⟩ | ⟨hjk, rfl, rfl, rfl, hq, rfl⟩
      · have HA2 : Hid (InvA F j s' a' b' q' e') := hA
        have hq := hA.2.2.2.2.2.1
        have hq0 : 0 ≤ q' ∧ q' ≤ 4611686018427387904 := by omega
        clear hA hq hI
        by_cases hjl : j < kOf F
        · go_wp2_with fail
          refine (zzrun9 0 s' a' b' q' e' _ (.inr hq0)).mono ?_
          rintro e w3 ⟨stop, s2, rv3, rw3, q2, e3, hWR, rfl, hb3⟩
          obtain ⟨rfl, rfl, rfl, g1, g2, g3, g4, g5, g6, g7, g8, g9⟩ := stepA_lt hF1 hF2 hj1 hjl HA2.out hWR
          have u1 : feq e3 rv = true := feq_mk g1 HA.out.1 (g2.trans HA.out.2.symm)
          have u2 := ge_zero g3 g4
          have u3 : fle rv3 a' = true := fle_mk g3 (fin_nn HA2.out.2.1) g5
          have u4 := ge_one g6 g7
          have u5 := le_fq g6 g8
          have NI : Hid (Inv F (kOf F) (q2 + 1) true rv3 rw3 q2 e3) := .inl ⟨by omega, g9⟩
          clear hWR g1 g2 g3 g4 g5 g6 g7 g8 g9 HA2
          go_wp2_with fail
          go_roundw
          case rel => exact ⟨q2 + 1, true, rv3, rw3, q2, e3, rfl, rfl, rfl, rfl, rfl, rfl, by omega, by omega, NI, bdrewN (hB.trans (hb3.mono hB.size))⟩
          case measure => simp [intOf]; omega
        · have hje : j = kOf F := by omega
          have HJ : Hid (j = kOf F) := hje
          have hjb : (j == kOf F) = true := beq_iff_eq.2 hje
          clear hje
          go_wp2_with fail
          refine (zzrun9 0 s' a' b' q' e' _ (.inr hq0)).mono ?_
          rintro e w3 ⟨stop, s2, rv3, rw3, q2, e3, hWR, rfl, hb3⟩
          obtain ⟨rfl, rfl, rfl, rfl, rfl, rfl⟩ := stepA_eq hF1 hF2 HJ.out HA2.out hWR
          have u1 := feq_zero
          clear hWR HA2
          go_wp2_with fail
          go_roundw
          case rel => exact ⟨j + 1, false, 0, 0, 0, 0, rfl, rfl, rfl, rfl, rfl, rfl, by omega, by omega, .inr ⟨by omega, rfl, rfl, rfl, by omega, rfl⟩, hB.trans (hb3.mono hB.size)⟩
          case measure => simp [intOf]; omega
      · have hq0 : 0 ≤ q' ∧ q' ≤ 4611686018427387904 := by omega
        have hjb : (j == kOf F) = false := beq_eq_false_iff_ne.2 (by omega)
        have HQ : Hid (q' = j - 1 - kOf F) := hq
        clear hI hq
        go_wp2_with fail
        refine (zzrun9 0 false 0 0 q' 0 _ (.inr hq0)).mono ?_
        rintro e w3 ⟨stop, s2, rv3, rw3, q2, e3, hWR, rfl, hb3⟩
        obtain ⟨rfl, rfl, rfl, rfl, rfl, rfl⟩ := stepB zero_not hq0.1 hq0.2 hWR
        have u1 := feq_zero
        have u2 : q' + 1 ≤ j - kOf F := by have := HQ.out; omega
        have u3 : j - kOf F ≤ q' + 1 := by have := HQ.out; omega
        clear hWR
        go_wp2_with fail
        go_roundw
        case rel => exact ⟨j + 1, false, 0, 0, j - kOf F, 0, rfl, rfl, rfl, rfl, rfl, rfl, by omega, by omega, .inr ⟨by omega, rfl, rfl, rfl, by omega, rfl⟩, hB.trans (hb3.mono hB.size)⟩
        case measure => simp [intOf]; omega
    · go_wp2_with fail
      go_ret
      exact ⟨rfl, hB⟩

set_option maxRecDepth 100000 in
set_option maxHeartbeats 4000000 in
theorem stops_f_big (F : Int) (rv rw : Nat) (q : Int) (ex : Nat) (n : Int) (w : World) (hn0 : 0 ≤ n) (hn1 : n ≤ 65536) (hF1 : 1 ≤ F) (hF2 : F ≤ 9223372036854775807) (hF20 : ¬ F < 20)
    (hrv : feq rv (floatOfInt .f64 F) = true) (hrw : fge rw 0 = true) (hex : fin ex = true) :
    Calls Try.prog 3 #[.int .i64 F, .bool false, .float .f64 rv, .float .f64 rw, .int .i64 q, .float .f64 ex, .int .i64 n] w fun e w' => e = .returned (.bool true) ∧ Below w.heap.size w w' := by
  have hA := feq_of hrv
  have hB := fge_of hrw
  rw [sv_zero] at hB
  have HA : Hid (nn rv = true ∧ sv rv = sv (floatOfInt .f64 F)) := ⟨hA.1, hA.2.2⟩
  have HB : Hid (nn rw = true ∧ 0 ≤ sv rw) := ⟨hB.1, hB.2.2⟩
  have HK : Hid (kOf F = 1) := kOf_one hF20
  clear hA hB
  go_enter Try.func3, Try.ntmps3
  go_wp2_with (go_at_call 8; go_loud (refine (fin8 _ _).mono ?_); rintro e w' ⟨rfl, m, rfl⟩)
  refine (zzrun9 F false rv rw q ex _ (.inl (by omega))).mono ?_
  rintro e w1 ⟨stop, s2, rv2, rw2, q2, e2, hWR, rfl, hb⟩
  obtain ⟨rfl, rfl, rfl, rfl, g1, g2, g3, g4, g5, g6⟩ := step_first hF1 hF2 HA.out.1 HA.out.2 HB.out.1 HB.out.2 hex hWR
  have t1 : feq rv2 rv = true := feq_mk g1 HA.out.1 g2
  have t2 : feq e2 e2 = true := feq_mk (fin_nn hex) (fin_nn hex) rfl
  have G : Hid (fin rv2 = true ∧ sv rv2 = sv (floatOfInt .f64 F) ∧ nn rw2 = true ∧ 0 ≤ sv rw2) := ⟨fin_of_feq g1 (int_fin (by omega) hF2).1 (g2.trans HA.out.2), g2.trans HA.out.2, g3, g4⟩
  obtain rfl := g6 rfl
  have t3 : feq rw2 rw2 = true := feq_mk g3 g3 rfl
  clear hWR g1 g2 g3 g4 g5 g6
  go_wp2_with fail
  go_loopw [17, 18, 19, 20, 21, 23] (fun s a b q e i w' => ∃ (j : Int) (s' : Bool) (a' b' : Nat) (q' : Int) (e' : Nat), s = .bool s' ∧ a = .float .f64 a' ∧ b = .float .f64 b' ∧ q = .int .i64 q' ∧ e = .float .f64 e' ∧ i = .int .i64 j ∧ 1 ≤ j ∧ j ≤ n + 1 ∧
      Hid (Inv F (1) j s' a' b' q' e') ∧ Below w.heap.size w w') (fun _ _ _ _ _ i _ => (n + 1 - intOf i).toNat)
  case atStart =>
    exact ⟨1, true, rv2, rw2, 0, e2, rfl, rfl, rfl, rfl, rfl, rfl, by omega, by omega, .inl ⟨by omega, rfl, G.out.1, by rw [G.out.2.1]; exact int_ge0 (by omega), G.out.2.2.1, G.out.2.2.2, rfl, fun _ => G.out.2.1, fun h => absurd rfl h⟩, (bdrewN (Below.refl _ _)).trans hb⟩
  case round =>
    obtain ⟨j, s', a', b', q', e', rfl, rfl, rfl, rfl, rfl, rfl, hj1, hj2, hI, hB⟩ := hrel
    clear t1 t2 t3
    by_cases hlt : j ≤ n
    · rcases hI.out with ⟨hjk, hA⟩ | ⟨hjk, rfl, rfl, rfl, hq, rfl⟩
      · have HA2 : Hid (InvA F j s' a' b' q' e') := hA
        have hq := hA.2.2.2.2.2.1
        have hq0 : 0 ≤ q' ∧ q' ≤ 4611686018427387904 := by omega
        clear hA hq hI
        obtain rfl : j = 1 := by omega
        go_wp2_with fail
        refine (zzrun9 0 s' a' b' q' e' _ (.inr hq0)).mono ?_
        rintro e w3 ⟨stop, s2, rv3, rw3, q2, e3, hWR, rfl, hb3⟩
        obtain ⟨rfl, rfl, rfl, rfl, rfl, rfl⟩ := stepA_eq hF1 hF2 HK.out.symm HA2.out hWR
        have u1 := feq_zero
        clear hWR HA2
        go_wp2_with fail
        go_roundw
        case rel => exact ⟨2, false, 0, 0, 0, 0, rfl, rfl, rfl, rfl, rfl, rfl, by omega, by omega, .inr ⟨by omega, rfl, rfl, rfl, by omega, rfl⟩, hB.trans (hb3.mono hB.size)⟩
        case measure => simp [intOf]; omega
      · have hq0 : 0 ≤ q' ∧ q' ≤ 4611686018427387904 := by omega
        have hjb : (j == 1) = false := beq_eq_false_iff_ne.2 (by omega)
        have HQ : Hid (q' = j - 1 - 1) := hq
        clear hI hq
        go_wp2_with fail
        refine (zzrun9 0 false 0 0 q' 0 _ (.inr hq0)).mono ?_
        rintro e w3 ⟨stop, s2, rv3, rw3, q2, e3, hWR, rfl, hb3⟩
        obtain ⟨rfl, rfl, rfl, rfl, rfl, rfl⟩ := stepB zero_not hq0.1 hq0.2 hWR
        have u1 := feq_zero
        have u2 : q' + 1 ≤ j - 1 := by have := HQ.out; omega
        have u3 : j - 1 ≤ q' + 1 := by have := HQ.out; omega
        clear hWR
        go_wp2_with fail
        go_roundw
        case rel => exact ⟨j + 1, false, 0, 0, j - 1, 0, rfl, rfl, rfl, rfl, rfl, rfl, by omega, by omega, .inr ⟨by omega, rfl, rfl, rfl, by omega, rfl⟩, hB.trans (hb3.mono hB.size)⟩
        case measure => simp [intOf]; omega
    · go_wp2_with fail
      go_ret
      exact ⟨rfl, hB⟩

end Go.Proofs.Qxb6602616a
