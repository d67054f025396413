import Derived.Test.Qxb6602616aR2
namespace Go.Proofs.Qxb6602616a
open Go.RowKit Fl
attribute [local go_sem] run_fadd run_fsub run_fmul run_fquo run_store_float setCell_drewN alloc_drewN ord_eq ord_ne ord_lt ord_gt ord_le ord_ge

theorem feq_zero_r : feq 0 0 = true := by decide +kernel
theorem bytes10_y (c : Int) (s : Bool) (rv rw : Nat) (q : Int) (ex : Nat) (a0 : Option Addr) (len cap : Nat) (w : World) (h : len ≤ 1048576) :
    Calls Try.prog 10 #[.int .i64 c, .bool s, .float .f64 rv, .float .f64 rw, .int .i64 q, .float .f64 ex, .slice a0 len cap] w fun e w' => e = .returned (.bool true) ∧ ∃ n, w' = w.drewN n :=
  (bytes10_yes c s rv rw q ex a0 len cap w h).mono fun _ _ ⟨h1, h2⟩ => ⟨h1, 0, h2⟩

set_option maxRecDepth 100000 in
set_option maxHeartbeats 4000000 in
theorem reports_some (c0 : Int) (s : Bool) (rv rw : Nat) (q : Int) (ex : Nat) (b off : Nat) (sp : Option Nat) (len cap : Nat) (z : Nat → Int) (w : World) (hl : len ≤ 65536) (hb : 0 < len → b < w.heap.size)
    (hc : ∀ i, i < len → w.cell? ⟨b, off + i, none⟩ = some (.int .i64 (z i))) (hsp : 0 < len → sp = none) (hz : ∀ i, -9223372036854775808 ≤ z i ∧ z i ≤ 9223372036854775807)
    (hc1 : -9223372036854775808 ≤ c0) (hc2 : c0 ≤ 9223372036854775807) (hq0 : 0 ≤ q) (hq1 : q ≤ 1073741824) (hrv : fin rv = true) (hrw : fge rw 0 = true) (hex : fin ex = true) :
    Calls Try.prog 4 #[.int .i64 c0, .bool s, .float .f64 rv, .float .f64 rw, .int .i64 q, .float .f64 ex, .slice (some ⟨b, off, sp⟩) len cap] w fun e w' => e = .returned (.bool true) ∧ Below w.heap.size w w' := by
  have hB := fge_of hrw
  rw [sv_zero] at hB
  have HI : Hid (InvR 0 true s rv rw q ex) := ⟨hrv, hB.1, hB.2.2, hex, hq0, by omega, fun h => by cases h⟩
  have HC : Hid (∀ i, i < len → w.cell? ⟨b, off + i, none⟩ = some (.int .i64 (z i))) := hc
  have HB : Hid (0 < len → b < w.heap.size) := hb
  have HS : Hid (0 < len → sp = none) := hsp
  have HZ : Hid (∀ i, -9223372036854775808 ≤ z i ∧ z i ≤ 9223372036854775807) := hz
  clear hc hb hsp hB hz
  go_enter Try.func4, Try.ntmps4
  go_wp2_with (first | (go_at_call 10; refine (bytes10_y _ _ _ _ _ _ _ _ _ _ (by omega)).mono ?_; rintro e w' ⟨rfl, m, rfl⟩) | (go_at_call 8; refine (fin8 _ _).mono ?_; rintro e w' ⟨rfl, m, rfl⟩))
  refine (clone11_some b off len cap z _ (by omega) (by exact HB.out) (by exact HC.out) sp HS.out).mono ?_
  rintro e w1 ⟨rfl, hrow, hsz, hb1⟩
  have HR : Hid (RowI w1 w.heap.size len z) := hrow
  change w.heap.size < w1.heap.size at hsz
  have hB1 : Below w.heap.size w w1 := (bdrewN (Below.refl _ _)).trans hb1
  clear hrow hb1 HC HB HS
  go_wp2_with fail
  go_loopw [15, 16, 17, 18, 19, 20, 21] (fun ar s a b q e i wr => ∃ k : Nat, k ≤ len + 1 ∧ i = .int .i64 k ∧ ∃ (ar' s' : Bool) (a' b' : Nat) (q' : Int) (e' : Nat), ar = .bool ar' ∧ s = .bool s' ∧ a = .float .f64 a' ∧ b = .float .f64 b' ∧ q = .int .i64 q' ∧ e = .float .f64 e' ∧
      Hid (InvR k ar' s' a' b' q' e') ∧ Hid (RowI wr w.heap.size len z) ∧ w.heap.size < wr.heap.size ∧ Below w.heap.size w wr) (fun _ _ _ _ _ _ i _ => len + 1 - (intOf i).toNat)
  case atStart => exact ⟨0, by omega, rfl, true, s, rv, rw, q, ex, rfl, rfl, rfl, rfl, rfl, rfl, HI, HR, hsz, hB1⟩
  case round =>
    obtain ⟨k, hk, rfl, ar, s', a', b', q', e', rfl, rfl, rfl, rfl, rfl, rfl, hI, hRow, hsz2, hB⟩ := hrel
    clear HR hsz hB1 HI hrv hrw hex
    have hq : 0 ≤ q' ∧ q' ≤ 4611686018427387904 := by
      obtain ⟨_, _, _, _, h1, h2, _⟩ := hI.out
      omega
    by_cases hlt : k ≤ len
    · by_cases hk0 : k = 0
      · subst hk0
        go_wp2_with fail
        refine (zzrun9 c0 s' a' b' q' e' _ (.inr hq)).mono ?_
        rintro e w3 ⟨stop, s2, rv3, rw3, q2, e3, hWR, rfl, hb3⟩
        have hstep := stepR (n := (0 : Int)) (by omega) (by omega) hc1 hc2 hI.out hWR
        have R3 : Hid (RowI w3 w.heap.size len z) := rowI_below hRow.out hb3 hsz2
        have hsz3 : w.heap.size < w3.heap.size := Nat.lt_of_lt_of_le hsz2 hb3.size
        clear hRow
        clear hWR hI
        by_cases hcp : 0 < c0
        · rcases hstep with ⟨_, h, _⟩ | ⟨rfl, rfl, h3, h4, h5⟩
          · exact absurd hcp h
          · obtain rfl := h3 hcp
            have hd : decide (0 < c0) = true := decide_eq_true hcp
            rw [hd, Bool.or_true, Bool.or_true] at h5
            rw [hd, Bool.or_true]
            have N : Hid (InvR (1 : Nat) true true rv3 rw3 0 e3) := h5
            clear h3 h4 h5 hd
            go_wp2_with fail
            all_goals
              go_roundw
              case rel => exact ⟨1, by omega, by go_num, true, true, rv3, rw3, 0, e3, rfl, rfl, rfl, rfl, rfl, rfl, N, R3, hsz3, hB.trans (hb3.mono hB.size)⟩
              case measure => simp [intOf] <;> omega
        · have hd : decide (0 < c0) = false := decide_eq_false hcp
          rcases hstep with ⟨rfl, _, rfl, rfl, rfl, rfl, rfl, rfl, h9⟩ | ⟨rfl, rfl, h3, h4, h5⟩
          · have N : Hid (InvR (1 : Nat) false false 0 0 0 0) := h9
            have u1 := feq_zero_r
            clear h9
            go_wp2_with fail
            all_goals
              go_roundw
              case rel => exact ⟨1, by omega, by go_num, false, false, 0, 0, 0, 0, rfl, rfl, rfl, rfl, rfl, rfl, N, R3, hsz3, hB.trans (hb3.mono hB.size)⟩
              case measure => simp [intOf] <;> omega
          · obtain rfl := h4 hcp
            rw [hd, Bool.or_false, Bool.or_false] at h5
            rw [hd, Bool.or_false]
            have N : Hid (InvR (1 : Nat) ar s' rv3 rw3 (q' + 1) e3) := h5
            clear h3 h4 h5
            revert N
            cases s' <;> intro N <;> go_wp2_with fail
            all_goals
              go_roundw
              case rel => exact ⟨1, by omega, by go_num, ar, _, rv3, rw3, q' + 1, e3, rfl, rfl, rfl, rfl, rfl, rfl, N, R3, hsz3, hB.trans (hb3.mono hB.size)⟩
              case measure => simp [intOf] <;> omega

      · obtain ⟨k, rfl⟩ : ∃ n, k = n + 1 := ⟨k - 1, by omega⟩
        have hz := HZ.out k
        have hcell := hRow.out.1 k (by omega)
        generalize z k = c at hz hcell
        go_wp2_with fail
        refine (zzrun9 c s' a' b' q' e' _ (.inr hq)).mono ?_
        rintro e w3 ⟨stop, s2, rv3, rw3, q2, e3, hWR, rfl, hb3⟩
        have hstep := stepR (n := ((k + 1 : Nat) : Int)) (by omega) (by omega) hz.1 hz.2 hI.out hWR
        have en : ((k + 1 : Nat) : Int) + 1 = ((k + 1 + 1 : Nat) : Int) := by omega
        rw [en] at hstep
        have R3 : Hid (RowI w3 w.heap.size len z) := rowI_below hRow.out hb3 hsz2
        have hsz3 : w.heap.size < w3.heap.size := Nat.lt_of_lt_of_le hsz2 hb3.size
        clear hRow hcell en
        clear hWR hI
        by_cases hcp : 0 < c
        · rcases hstep with ⟨_, h, _⟩ | ⟨rfl, rfl, h3, h4, h5⟩
          · exact absurd hcp h
          · obtain rfl := h3 hcp
            have hd : decide (0 < c) = true := decide_eq_true hcp
            rw [hd, Bool.or_true, Bool.or_true] at h5
            rw [hd, Bool.or_true]
            have N : Hid (InvR (k + 1 + 1 : Nat) true true rv3 rw3 0 e3) := h5
            clear h3 h4 h5 hd
            go_wp2_with fail
            all_goals
              go_roundw
              case rel => exact ⟨k + 1 + 1, by omega, by go_num, true, true, rv3, rw3, 0, e3, rfl, rfl, rfl, rfl, rfl, rfl, N, R3, hsz3, hB.trans (hb3.mono hB.size)⟩
              case measure => simp [intOf] <;> omega
        · have hd : decide (0 < c) = false := decide_eq_false hcp
          rcases hstep with ⟨rfl, _, rfl, rfl, rfl, rfl, rfl, rfl, h9⟩ | ⟨rfl, rfl, h3, h4, h5⟩
          · have N : Hid (InvR (k + 1 + 1 : Nat) false false 0 0 0 0) := h9
            have u1 := feq_zero_r
            clear h9
            go_wp2_with fail
            all_goals
              go_roundw
              case rel => exact ⟨k + 1 + 1, by omega, by go_num, false, false, 0, 0, 0, 0, rfl, rfl, rfl, rfl, rfl, rfl, N, R3, hsz3, hB.trans (hb3.mono hB.size)⟩
              case measure => simp [intOf] <;> omega
          · obtain rfl := h4 hcp
            rw [hd, Bool.or_false, Bool.or_false] at h5
            rw [hd, Bool.or_false]
            have N : Hid (InvR (k + 1 + 1 : Nat) ar s' rv3 rw3 (q' + 1) e3) := h5
            clear h3 h4 h5
            revert N
            cases s' <;> intro N <;> go_wp2_with fail
            all_goals
              go_roundw
              case rel => exact ⟨k + 1 + 1, by omega, by go_num, ar, _, rv3, rw3, q' + 1, e3, rfl, rfl, rfl, rfl, rfl, rfl, N, R3, hsz3, hB.trans (hb3.mono hB.size)⟩
              case measure => simp [intOf] <;> omega

    · go_wp2_with fail
      go_ret
      exact ⟨rfl, hB⟩

set_option maxRecDepth 100000 in
set_option maxHeartbeats 4000000 in
theorem reports_nil (c0 : Int) (s : Bool) (rv rw : Nat) (q : Int) (ex : Nat) (w : World)
    (hc1 : -9223372036854775808 ≤ c0) (hc2 : c0 ≤ 9223372036854775807) (hq0 : 0 ≤ q) (hq1 : q ≤ 1073741824) (hrv : fin rv = true) (hrw : fge rw 0 = true) (hex : fin ex = true) :
    Calls Try.prog 4 #[.int .i64 c0, .bool s, .float .f64 rv, .float .f64 rw, .int .i64 q, .float .f64 ex, .slice none 0 0] w fun e w' => e = .returned (.bool true) ∧ Below w.heap.size w w' := by
  have hB := fge_of hrw
  rw [sv_zero] at hB
  have HI : Hid (InvR 0 true s rv rw q ex) := ⟨hrv, hB.1, hB.2.2, hex, hq0, by omega, fun h => by cases h⟩
  clear hB
  go_enter Try.func4, Try.ntmps4
  go_wp2_with (first | (go_at_call 10; refine (bytes10_y _ _ _ _ _ _ _ _ _ _ (by omega)).mono ?_; rintro e w' ⟨rfl, m, rfl⟩) | (go_at_call 8; refine (fin8 _ _).mono ?_; rintro e w' ⟨rfl, m, rfl⟩) | (go_at_call 11; refine (clone11_nil _).mono ?_; rintro e w' ⟨rfl, hw⟩; subst hw))
  go_loopw [15, 16, 17, 18, 19, 20, 21] (fun ar s a b q e i wr => ∃ k : Nat, k ≤ 1 ∧ i = .int .i64 k ∧ ∃ (ar' s' : Bool) (a' b' : Nat) (q' : Int) (e' : Nat), ar = .bool ar' ∧ s = .bool s' ∧ a = .float .f64 a' ∧ b = .float .f64 b' ∧ q = .int .i64 q' ∧ e = .float .f64 e' ∧
      Hid (InvR k ar' s' a' b' q' e') ∧ Below w.heap.size w wr) (fun _ _ _ _ _ _ i _ => 1 - (intOf i).toNat)
  case atStart => exact ⟨0, by omega, rfl, true, s, rv, rw, q, ex, rfl, rfl, rfl, rfl, rfl, rfl, HI, bdrewN (Below.refl _ _)⟩
  case round =>
    obtain ⟨k, hk, rfl, ar, s', a', b', q', e', rfl, rfl, rfl, rfl, rfl, rfl, hI, hB⟩ := hrel
    clear HI hrv hrw hex
    have hq : 0 ≤ q' ∧ q' ≤ 4611686018427387904 := by
      obtain ⟨_, _, _, _, h1, h2, _⟩ := hI.out
      omega
    by_cases hk0 : k = 0
    · subst hk0
      go_wp2_with fail
      refine (zzrun9 c0 s' a' b' q' e' _ (.inr hq)).mono ?_
      rintro e w3 ⟨stop, s2, rv3, rw3, q2, e3, hWR, rfl, hb3⟩
      have hstep := stepR (n := (0 : Int)) (by omega) (by omega) hc1 hc2 hI.out hWR
      clear hWR hI
      by_cases hcp : 0 < c0
      · rcases hstep with ⟨_, h, _⟩ | ⟨rfl, rfl, h3, h4, h5⟩
        · exact absurd hcp h
        · obtain rfl := h3 hcp
          have hd : decide (0 < c0) = true := decide_eq_true hcp
          rw [hd, Bool.or_true, Bool.or_true] at h5
          rw [hd, Bool.or_true]
          have N : Hid (InvR (1 : Nat) true true rv3 rw3 0 e3) := h5
          clear h3 h4 h5 hd
          go_wp2_with fail
          all_goals
            go_roundw
            case rel => exact ⟨1, by omega, by go_num, true, true, rv3, rw3, 0, e3, rfl, rfl, rfl, rfl, rfl, rfl, N,  hB.trans (hb3.mono hB.size)⟩
            case measure => simp [intOf] <;> omega
      · have hd : decide (0 < c0) = false := decide_eq_false hcp
        rcases hstep with ⟨rfl, _, rfl, rfl, rfl, rfl, rfl, rfl, h9⟩ | ⟨rfl, rfl, h3, h4, h5⟩
        · have N : Hid (InvR (1 : Nat) false false 0 0 0 0) := h9
          have u1 := feq_zero_r
          clear h9
          go_wp2_with fail
          all_goals
            go_roundw
            case rel => exact ⟨1, by omega, by go_num, false, false, 0, 0, 0, 0, rfl, rfl, rfl, rfl, rfl, rfl, N,  hB.trans (hb3.mono hB.size)⟩
            case measure => simp [intOf] <;> omega
        · obtain rfl := h4 hcp
          rw [hd, Bool.or_false, Bool.or_false] at h5
          rw [hd, Bool.or_false]
          have N : Hid (InvR (1 : Nat) ar s' rv3 rw3 (q' + 1) e3) := h5
          clear h3 h4 h5
          revert N
          cases s' <;> intro N <;> go_wp2_with fail
          all_goals
            go_roundw
            case rel => exact ⟨1, by omega, by go_num, ar, _, rv3, rw3, q' + 1, e3, rfl, rfl, rfl, rfl, rfl, rfl, N,  hB.trans (hb3.mono hB.size)⟩
            case measure => simp [intOf] <;> omega

    · obtain rfl : k = 1 := by omega
      go_wp2_with fail
      go_ret
      exact ⟨rfl, hB⟩
end Go.Proofs.Qxb6602616a
