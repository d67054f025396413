import Derived.Test.Qxb6602709aDoorD6
import Derived.Laws.AppendOwnNone
namespace Go.Proofs.Qxb6602709aDoor
open Go.RowKit

/-- the framed string, and the payload -/
structure Fr (W : World) (P G n T : Nat) (L : List Int) : Prop where
  raw : RowB W G (T + 1 + L.length) (fun i => (digs n T ++ ([58] ++ L)).getD i 0)
  pay : RowB W P L.length (fun i => L.getD i 0)
theorem Fr.dig {W : World} {P G n T : Nat} {L : List Int} (h : Fr W P G n T L) {k : Nat} (hk : k < T) : W.cell? ⟨G, k, none⟩ = some (.int .u8 (dgt n (T - 1 - k))) := by
  rw [h.raw.1 k (by omega)]
  show some (Value.int .u8 ((digs n T ++ ([58] ++ L)).getD k 0)) = _
  rw [List.getD_eq_getElem?_getD, List.getElem?_append_left (by rw [digs_len]; exact hk), digs_get hk]; rfl
theorem Fr.col {W : World} {P G n T : Nat} {L : List Int} (h : Fr W P G n T L) : W.cell? ⟨G, T, none⟩ = some (.int .u8 58) := by
  rw [h.raw.1 T (by omega)]
  show some (Value.int .u8 ((digs n T ++ ([58] ++ L)).getD T 0)) = _
  rw [List.getD_eq_getElem?_getD, List.getElem?_append_right (by rw [digs_len]; omega), digs_len, Nat.sub_self]; rfl
theorem Fr.pl {W : World} {P G n T : Nat} {L : List Int} (h : Fr W P G n T L) {j : Nat} (hj : j < L.length) : ∃ x, W.cell? ⟨G, T + 1 + j, none⟩ = some (.int .u8 x) ∧ W.cell? ⟨P, j, none⟩ = some (.int .u8 x) := by
  refine ⟨L.getD j 0, ?_, h.pay.1 j hj⟩
  rw [h.raw.1 (T + 1 + j) (by omega)]
  show some (Value.int .u8 ((digs n T ++ ([58] ++ L)).getD (T + 1 + j) 0)) = _
  rw [List.getD_eq_getElem?_getD, List.getElem?_append_right (by rw [digs_len]; omega), digs_len, show T + 1 + j - T = j + 1 from by omega]
  simp [List.getD]
theorem Fr.below {W W' : World} {P G n T : Nat} {L : List Int} (h : Fr W P G n T L) (hb : Below W.heap.size W W') (hP : P < W.heap.size) (hG : G < W.heap.size) : Fr W' P G n T L :=
  ⟨rowB_below h.raw hb hG, rowB_below h.pay hb hP⟩

theorem first_digit {n T : Nat} (h1 : 1 < T) (h2 : n < 10 ^ T) (h3 : T = 1 ∨ 10 ^ (T - 1) ≤ n) : (dgt n (T - 1 - 0) == 48) = false := by
  have h3 : 10 ^ (T - 1) ≤ n := by rcases h3 with h | h <;> omega
  refine beq_eq_false_iff_ne.2 ?_
  unfold dgt
  have e : T = (T - 1) + 1 := by omega
  rw [e, Nat.pow_succ] at h2
  have hpos := Nat.pow_pos (n := T - 1) (show 0 < 10 by omega)
  have a : 1 ≤ n / 10 ^ (T - 1) := (Nat.le_div_iff_mul_le hpos).2 (by omega)
  have b : n / 10 ^ (T - 1) < 10 := (Nat.div_lt_iff_lt_mul hpos).2 (by rw [Nat.mul_comm]; exact h2)
  rw [Nat.sub_zero]
  omega

set_option maxRecDepth 100000 in
set_option maxHeartbeats 2000000 in
theorem frames_some (a : Addr) (cap : Nat) (L : List Int) (w : World) (hl : L.length ≤ 1048576) (hsrc : 0 < L.length → ∀ j u, (L.map (Value.int .u8))[j]? = some u → w.cell? (a.add j) = some u) (htab : Lib.TabIs Tryd.prog w tabName .u64 Lib.pow10Tab) :
    Calls Tryd.prog 4 #[.slice (some a) L.length cap] w fun e w' => e = .returned (.bool true) ∧ Below w.heap.size w w' := by
  have HS : Hid (0 < L.length → ∀ j u, (L.map (Value.int .u8))[j]? = some u → w.cell? (a.add j) = some u) := hsrc
  have HT : Hid (Lib.TabIs Tryd.prog w tabName .u64 Lib.pow10Tab) := htab
  obtain ⟨i0, hi, hz0, hz1, hz2⟩ := info_parts info5
  clear hsrc htab
  go_enter Tryd.func4, Tryd.ntmps4
  go_wp2_with (go_at_call 9; refine (bytes9_y _ _ _ _ (by omega)).mono ?_; rintro e w' ⟨rfl, m, rfl⟩)
  refine (clone6_some a cap L _ hl (by exact HS.out)).mono ?_
  rintro e w1 ⟨rfl, hN1⟩
  have N1 : Hid (NewRow w w1 w.heap.size L) := ⟨hN1.1, hN1.2.1, (below_drewN (Below.refl _ _) _).trans hN1.2.2⟩
  clear hN1 HS
  have hP1 : w.heap.size < w1.heap.size := lt_of_some N1.out.1
  go_wp2_with fail
  refine (len7 w1.heap.size 0 L.length (by omega) (.slice none 0 0) [] w1 (World.ownsRow_nil _ _ _ _) (Nat.le_refl _) (by omega) (Lib.tabBelow_of_tabIs HT.out w1 N1.out.2.2)).mono ?_
  rintro e w2 ⟨T, v2, rfl, hT1, hT2, hnT, hnl, hown2, hB2, hSk⟩
  have O2 : Hid (w2.ownsRow w1.heap.size 5 1 v2 (T + 1) ((digs L.length T ++ [58]).map (Value.int .u8))) := by
    have h := hown2
    rw [Nat.zero_add, List.nil_append] at h
    exact h
  have NT : Hid (L.length < 10 ^ T ∧ (T = 1 ∨ 10 ^ (T - 1) ≤ L.length)) := ⟨hnT, hnl⟩
  have P2 : Hid (w2.heap[w.heap.size]? = some (.cells (L.map (Value.int .u8)).toArray 5 (0, 0))) := by
    show _ = _
    rw [hB2.block _ hP1]; exact N1.out.1
  have hBw2 : Below w.heap.size w w2 := N1.out.2.2.trans (hB2.mono N1.out.2.2.size)
  have hs2 := hB2.size
  clear hSk hown2 hnT hnl N1 HT
  obtain ⟨g2, cap2, hv2, _, _, _, _⟩ := own_row O2.out (by simp [digs_len]) (by omega)
  subst hv2
  go_wp2_with (at_builtin; go_loud (refine wpList_append_own _ rfl (.tmp 25) (.tmp 26) 22 rfl w1.heap.size 5 i0 (.int .u8 0) 1 1 Tryd.underlying22 hi hz0 hz1 hz2 rfl (by decide) (.slice (some ⟨g2, 0, none⟩) (T + 1) cap2) (T + 1) ((digs L.length T ++ [58]).map (Value.int .u8)) rfl O2.out ⟨w.heap.size, 0, none⟩ L.length L.length (L.map (Value.int .u8)) rfl (by simp) (rowB_news (rowB_heap P2.out) rfl) (oneL _) (by unfold maxLen; omega) (by omega) hs2 ?_); intro v3 w3 hown3 hgrow3 hnil3)
  have hB3 : Below w1.heap.size w2 w3 := (Below.refl _ _).grown hgrow3 hs2 (fun k hk => (O2.out.lt k hk).1)
  obtain ⟨G, cap3, hv3, hG1, hG2, hcap3, hraw⟩ := own_row (L := digs L.length T ++ ([58] ++ L)) (n := T + 1 + L.length) (by rw [← List.append_assoc, List.map_append]; exact hown3) (by simp [digs_len]; omega) (by omega)
  subst hv3
  have hP3 : w3.heap[w.heap.size]? = some (.cells (L.map (Value.int .u8)).toArray 5 (0, 0)) := by rw [hB3.block _ hP1]; exact P2.out
  have F3 : Hid (Fr w3 w.heap.size G L.length T L) := ⟨hraw, rowB_heap hP3⟩
  have hPs : w.heap.size < w3.heap.size := lt_of_some hP3
  have hBw3 : Below w.heap.size w w3 := hBw2.trans (hB3.mono (by omega))
  clear hraw hP3 hB3 hown3 hgrow3 hnil3 O2 P2 hBw2
  go_wp2_with fail
  refine (zzval10 G (T + 1 + L.length) cap3 w3).mono ?_
  rintro e w4 ⟨rfl, hB4⟩
  have F4 : Hid (Fr w4 w.heap.size G L.length T L) := F3.out.below hB4 hPs hG2
  have hBw4 : Below w.heap.size w w4 := hBw3.trans (hB4.mono hBw3.size)
  have hs4 := hB4.size
  clear F3 hBw3 hB4
  have F5 : Hid (Fr (w4.alloc (Obj.cells #[Value.slice (some ⟨G, 0, none⟩) (T + 1 + L.length) cap3] 30)) w.heap.size G L.length T L) := F4.out.below ((Below.refl _ _).alloc (Nat.le_refl _) _) (by omega) (by omega)
  clear F4
  go_wp2_with fail
  refine (kind11_s G (T + 1 + L.length) cap3 _ _ (by omega) (by simp; omega) (F5.out.dig hT1) (dgt_bd _ _).1 (dgt_bd _ _).2).mono ?_
  rintro e w6 ⟨rfl, hB6⟩
  have F6 : Hid (Fr w6 w.heap.size G L.length T L) := F5.out.below hB6 (by simp; omega) (by simp; omega)
  have k6 : w6.cell? ⟨w4.heap.size, 0, none⟩ = some (.slice (some ⟨G, 0, none⟩) (T + 1 + L.length) cap3) := by
    rw [hB6.cell (p := ⟨w4.heap.size, 0, none⟩) (by simp), World.cell?_alloc_new]; rfl
  have hBw6 : Below w.heap.size w w6 := (hBw4.alloc hBw4.size _).trans (hB6.mono (by simp; omega))
  have hs6 : w4.heap.size ≤ w6.heap.size := by have := hB6.size; simp at this; omega
  clear F5 hBw4 hB6
  go_wp2_with fail
  refine (int12_s G (T + 1 + L.length) cap3 _ _ (by omega) (by omega) (F6.out.dig hT1) (dgt_bd _ _).1 (dgt_bd _ _).2).mono ?_
  rintro e w7 ⟨rfl, hB7⟩
  have F7 : Hid (Fr w7 w.heap.size G L.length T L) := F6.out.below hB7 (by omega) (by omega)
  have hBw7 : Below w.heap.size w w7 := hBw6.trans (hB7.mono hBw6.size)
  clear F6 hBw6 hB7 k6
  have hcol := F7.out.col
  have ix : ((T : Int) + 1 - 1).toNat = T := by omega
  have ix2 : (T : Int) + 1 - 1 < (T : Int) + 1 + (L.length : Int) := by omega
  have hlo : ¬ (T : Int) + 1 < 2 := by omega
  obtain ⟨d0, hd0, hd1⟩ : ∃ d, w7.cell? ⟨G, 0, none⟩ = some (.int .u8 d) ∧ (1 < T → (d == 48) = false) := ⟨_, F7.out.dig hT1, fun h => first_digit h NT.out.1 NT.out.2⟩
  by_cases hT3 : 2 < (T : Int) + 1
  · have hd2 := hd1 (by omega)
    go_wp2_with fail
    go_loop [8, 9] (fun mv iv => ∃ k p : Nat, k ≤ T ∧ iv = .int .i64 k ∧ mv = .int .u64 p ∧ Hid (p = L.length / 10 ^ (T - k))) (fun _ iv => T - (intOf iv).toNat)
    case atStart => exact ⟨0, 0, by omega, rfl, rfl, (by rw [Nat.sub_zero, Nat.div_eq_of_lt NT.out.1] : (0 : Nat) = L.length / 10 ^ (T - 0))⟩
    case round =>
      obtain ⟨k, p, hk, rfl, rfl, hp⟩ := hrel
      by_cases hlt : k < T
      · obtain ⟨c, D, hcell, hcd, hD, hbd, N⟩ : ∃ (c : Int) (D : Nat), w7.cell? ⟨G, k, none⟩ = some (.int .u8 c) ∧ c = 48 + (D : Int) ∧ D ≤ 9 ∧ 10 * p + D ≤ 1048576 ∧ Hid (10 * p + D = L.length / 10 ^ (T - (k + 1))) := by
          have hst := digit_step hlt hp.out
          have hle : L.length / 10 ^ (T - (k + 1)) ≤ L.length := Nat.div_le_self _ _
          exact ⟨dgt L.length (T - 1 - k), L.length / 10 ^ (T - 1 - k) % 10, F7.out.dig hlt, rfl, by omega, by omega, hst⟩
        have hc48 : 48 ≤ c ∧ c ≤ 57 := by omega
        have hj1 : (k : Int) < (T : Int) + 1 - 1 := by omega
        have hj2 : (k : Int) < (T : Int) + 1 + (L.length : Int) := by omega
        have HCD : Hid (c = 48 + (D : Int)) := hcd
        clear hcd hp
        go_wp2_with fail
        go_round
        case rel => exact ⟨k + 1, 10 * p + D, by omega, by go_num, by have := HCD.out; go_num, N⟩
        case measure => simp [intOf]; omega
      · have hpm : p = L.length := by
          have := hp.out
          rw [show T - k = 0 from by omega] at this
          simpa using this
        subst hpm
        go_wp2_with fail
        go_loopw [11] (fun i wr => ∃ j q : Nat, j ≤ L.length ∧ i = .int .i64 j ∧ wr = w7.drewN q) (fun i _ => L.length - (intOf i).toNat)
        case atStart => exact ⟨0, 0, by omega, rfl, rfl⟩
        case round =>
          obtain ⟨j, q, hj, rfl, rfl⟩ := hrel
          by_cases hlt : j < L.length
          · obtain ⟨x, c1, c2⟩ := F7.out.pl hlt
            have i1 : (j : Int) < (L.length : Int) := by omega
            have i2 : (T : Int) + 1 + (j : Int) < (T : Int) + 1 + (L.length : Int) := by omega
            have i3 : ((T : Int) + 1 + (j : Int)).toNat = T + 1 + j := by omega
            go_wp2_with fail
            go_quiet (fail)
            go_wp2_with fail
            go_roundw
            case rel => exact ⟨j + 1, _, by omega, by go_num, rfl⟩
            case measure => simp [intOf]; omega
          · go_wp2_with fail
            go_ret
            exact ⟨rfl, below_drewN hBw7 _⟩
  · go_wp2_with fail
    go_loop [8, 9] (fun mv iv => ∃ k p : Nat, k ≤ T ∧ iv = .int .i64 k ∧ mv = .int .u64 p ∧ Hid (p = L.length / 10 ^ (T - k))) (fun _ iv => T - (intOf iv).toNat)
    case atStart => exact ⟨0, 0, by omega, rfl, rfl, (by rw [Nat.sub_zero, Nat.div_eq_of_lt NT.out.1] : (0 : Nat) = L.length / 10 ^ (T - 0))⟩
    case round =>
      obtain ⟨k, p, hk, rfl, rfl, hp⟩ := hrel
      by_cases hlt : k < T
      · obtain ⟨c, D, hcell, hcd, hD, hbd, N⟩ : ∃ (c : Int) (D : Nat), w7.cell? ⟨G, k, none⟩ = some (.int .u8 c) ∧ c = 48 + (D : Int) ∧ D ≤ 9 ∧ 10 * p + D ≤ 1048576 ∧ Hid (10 * p + D = L.length / 10 ^ (T - (k + 1))) := by
          have hst := digit_step hlt hp.out
          have hle : L.length / 10 ^ (T - (k + 1)) ≤ L.length := Nat.div_le_self _ _
          exact ⟨dgt L.length (T - 1 - k), L.length / 10 ^ (T - 1 - k) % 10, F7.out.dig hlt, rfl, by omega, by omega, hst⟩
        have hc48 : 48 ≤ c ∧ c ≤ 57 := by omega
        have hj1 : (k : Int) < (T : Int) + 1 - 1 := by omega
        have hj2 : (k : Int) < (T : Int) + 1 + (L.length : Int) := by omega
        have HCD : Hid (c = 48 + (D : Int)) := hcd
        clear hcd hp
        go_wp2_with fail
        go_round
        case rel => exact ⟨k + 1, 10 * p + D, by omega, by go_num, by have := HCD.out; go_num, N⟩
        case measure => simp [intOf]; omega
      · have hpm : p = L.length := by
          have := hp.out
          rw [show T - k = 0 from by omega] at this
          simpa using this
        subst hpm
        go_wp2_with fail
        go_loopw [11] (fun i wr => ∃ j q : Nat, j ≤ L.length ∧ i = .int .i64 j ∧ wr = w7.drewN q) (fun i _ => L.length - (intOf i).toNat)
        case atStart => exact ⟨0, 0, by omega, rfl, rfl⟩
        case round =>
          obtain ⟨j, q, hj, rfl, rfl⟩ := hrel
          by_cases hlt : j < L.length
          · obtain ⟨x, c1, c2⟩ := F7.out.pl hlt
            have i1 : (j : Int) < (L.length : Int) := by omega
            have i2 : (T : Int) + 1 + (j : Int) < (T : Int) + 1 + (L.length : Int) := by omega
            have i3 : ((T : Int) + 1 + (j : Int)).toNat = T + 1 + j := by omega
            go_wp2_with fail
            go_quiet (fail)
            go_wp2_with fail
            go_roundw
            case rel => exact ⟨j + 1, _, by omega, by go_num, rfl⟩
            case measure => simp [intOf]; omega
          · go_wp2_with fail
            go_ret
            exact ⟨rfl, below_drewN hBw7 _⟩
end Go.Proofs.Qxb6602709aDoor
