import Derived.Test.Qxb6602709aDoorD3
import Derived.Deep.QuietTactic
import Derived.BigQuiet
import Derived.LoopTactic
namespace Go.Proofs.Qxb6602709aDoor
open Go.RowKit Go.Sort

theorem cell_heap {w : World} {b : Nat} {arr : Array Value} (h : w.heap[b]? = some (.cells arr 5 (0, 0))) (j : Nat) : w.cell? ⟨b, j, none⟩ = arr[j]? := by
  simp [World.cell?, h]
theorem frz_heap {w : World} {b : Nat} {arr : Array Value} (h : w.heap[b]? = some (.cells arr 5 (0, 0))) (j : Nat) : w.frozen? ⟨b, j, none⟩ = false := by
  simp [World.frozen?, h]
theorem rowB_heap {w : World} {b : Nat} {L : List Int} (h : w.heap[b]? = some (.cells (L.map (Value.int .u8)).toArray 5 (0, 0))) : RowB w b L.length (fun i => L.getD i 0) :=
  ⟨fun i hi => by rw [cell_heap h]; simp [List.getD, hi], fun i => frz_heap h i⟩
theorem own_heap {w : World} {b : Nat} {L : List Int} (h : w.heap[b]? = some (.cells (L.map (Value.int .u8)).toArray 5 (0, 0))) (hl : L.length ≤ 1048576) : w.ownsRow b 5 1 (.slice (some ⟨b, 0, none⟩) L.length L.length) L.length (L.map (Value.int .u8)) :=
  ⟨by simp, .inr ⟨b, L.length, _, rfl, Nat.le_refl _, h, Nat.le_refl _, by unfold maxLen; omega, by simp, by simp only [Nat.mul_one]; exact List.take_of_length_le (by simp)⟩⟩

theorem pow_uniq {n T S : Nat} (h1 : 1 ≤ T) (h2 : 1 ≤ S) (a : n < 10 ^ T) (b : T = 1 ∨ 10 ^ (T - 1) ≤ n) (c : n < 10 ^ S) (d : S = 1 ∨ 10 ^ (S - 1) ≤ n) : T = S := by
  have key : ∀ T S : Nat, 1 ≤ T → 1 ≤ S → n < 10 ^ T → (S = 1 ∨ 10 ^ (S - 1) ≤ n) → S ≤ T := by
    intro T S h1 h2 a d
    rcases d with d | d
    · omega
    · have : 10 ^ (S - 1) < 10 ^ T := Nat.lt_of_le_of_lt d a
      have := (Nat.pow_lt_pow_iff_right (by omega)).1 this
      omega
  have := key T S h1 h2 a d
  have := key S T h2 h1 c b
  omega

set_option maxHeartbeats 400000 in
theorem bytes5_y (a0 : Option Addr) (len cap : Nat) (n : Int) (w : World) (h : len ≤ 1048576) :
    Calls Tryd.prog 5 #[.slice a0 len cap, .int .i64 n] w fun e w' => e = .returned (.bool true) ∧ ∃ m, w' = w.drewN m := by
  go_enter Tryd.func5, Tryd.ntmps5
  go_wp2
  go_ret
  exact ⟨rfl, 0, rfl⟩
set_option maxHeartbeats 400000 in
theorem bytes5_n (a0 : Option Addr) (len cap : Nat) (n : Int) (w : World) (h : 1048576 < len) :
    Calls Tryd.prog 5 #[.slice a0 len cap, .int .i64 n] w fun e w' => e = .returned (.bool false) ∧ ∃ m, w' = w.drewN m := by
  go_enter Tryd.func5, Tryd.ntmps5
  go_wp2
  go_ret
  exact ⟨rfl, 0, rfl⟩

/-- what stands when the checks begin -/
structure At (W : World) (G E Dg n T : Nat) (L : List Int) : Prop where
  got : RowB W G (L.length + T + 1) (fun i => (L ++ (digs n T ++ [58])).getD i 0)
  bef : RowB W E L.length (fun i => L.getD i 0)
  dig : RowB W Dg T (fun i => (digs n T).getD i 0)

theorem At.one {W : World} {G E Dg n T : Nat} {L : List Int} (h : At W G E Dg n T L) {j : Nat} (hj : j < L.length) : ∃ x, W.cell? ⟨G, j, none⟩ = some (.int .u8 x) ∧ W.cell? ⟨E, j, none⟩ = some (.int .u8 x) := by
  refine ⟨L.getD j 0, ?_, h.bef.1 j hj⟩
  rw [h.got.1 j (by omega)]
  show some (Value.int .u8 ((L ++ (digs n T ++ [58])).getD j 0)) = _
  rw [List.getD_eq_getElem?_getD, List.getD_eq_getElem?_getD, List.getElem?_append_left hj]
theorem At.two {W : World} {G E Dg n T : Nat} {L : List Int} (h : At W G E Dg n T L) {j : Nat} (hj : j < T) : ∃ x, W.cell? ⟨G, L.length + j, none⟩ = some (.int .u8 x) ∧ W.cell? ⟨Dg, j, none⟩ = some (.int .u8 x) := by
  refine ⟨(digs n T).getD j 0, ?_, h.dig.1 j hj⟩
  rw [h.got.1 (L.length + j) (by omega)]
  show some (Value.int .u8 ((L ++ (digs n T ++ [58])).getD (L.length + j) 0)) = _
  rw [List.getD_eq_getElem?_getD, List.getD_eq_getElem?_getD, List.getElem?_append_right (by omega), Nat.add_sub_cancel_left, List.getElem?_append_left (by rw [digs_len]; exact hj)]
theorem At.last {W : World} {G E Dg n T : Nat} {L : List Int} (h : At W G E Dg n T L) : W.cell? ⟨G, L.length + T, none⟩ = some (.int .u8 58) := by
  rw [h.got.1 (L.length + T) (by omega)]
  show some (Value.int .u8 ((L ++ (digs n T ++ [58])).getD (L.length + T) 0)) = _
  rw [List.getD_eq_getElem?_getD, List.getElem?_append_right (by omega), Nat.add_sub_cancel_left, List.getElem?_append_right (by rw [digs_len]; omega), digs_len]
  simp

set_option maxRecDepth 100000 in
set_option maxHeartbeats 2000000 in
theorem writes_some (a : Addr) (cap : Nat) (L : List Int) (n : Nat) (w : World) (hl : L.length ≤ 1048576) (hn : n ≤ 9223372036854775807) (hsrc : 0 < L.length → ∀ j u, (L.map (Value.int .u8))[j]? = some u → w.cell? (a.add j) = some u) (htab : Lib.TabIs Tryd.prog w tabName .u64 Lib.pow10Tab) :
    Calls Tryd.prog 3 #[.slice (some a) L.length cap, .int .i64 n] w fun e w' => e = .returned (.bool true) ∧ Below w.heap.size w w' := by
  have HS : Hid (0 < L.length → ∀ j u, (L.map (Value.int .u8))[j]? = some u → w.cell? (a.add j) = some u) := hsrc
  have HT : Hid (Lib.TabIs Tryd.prog w tabName .u64 Lib.pow10Tab) := htab
  have hn0 : ¬ (n : Int) < 0 := by omega
  have hwr : IntKind.u64.wrap (n : Int) = (n : Int) := by rw [IntKind.wrap_u64]; omega
  clear hsrc htab
  go_enter Tryd.func3, Tryd.ntmps3
  go_wp2_with (go_at_call 5; refine (bytes5_y _ _ _ _ _ (by omega)).mono ?_; rintro e w' ⟨rfl, m, rfl⟩)
  refine (clone6_some a cap L _ hl (by exact HS.out)).mono ?_
  rintro e w1 ⟨rfl, hN1⟩
  have N1 : Hid (NewRow w w1 w.heap.size L) := ⟨hN1.1, hN1.2.1, (below_drewN (Below.refl _ _) _).trans hN1.2.2⟩
  clear hN1 HS
  go_wp2_with fail
  refine (clone6_some ⟨w.heap.size, 0, none⟩ L.length L w1 hl (by
    intro _ j u hu
    rw [Addr.add_lit, Nat.zero_add, cell_heap N1.out.1]
    simpa using hu)).mono ?_
  rintro e w2 ⟨rfl, hN2⟩
  have hB2 : Below w.heap.size w w2 := N1.out.2.2.trans (hN2.2.2.mono N1.out.2.2.size)
  have hs1 : w1.heap.size = w.heap.size + 1 := N1.out.2.1
  have hd2 : w2.heap[w.heap.size]? = some (.cells (L.map (Value.int .u8)).toArray 5 (0, 0)) := by rw [hN2.2.2.block _ (by omega)]; exact N1.out.1
  have O2 : Hid (w2.ownsRow w.heap.size 5 1 (.slice (some ⟨w.heap.size, 0, none⟩) L.length L.length) L.length (L.map (Value.int .u8))) := own_heap hd2 hl
  have T2 : Hid (Lib.TabIs Tryd.prog w2 tabName .u64 Lib.pow10Tab) := Lib.tabBelow_of_tabIs HT.out w2 hB2
  have E2 : Hid (w2.heap[w1.heap.size]? = some (.cells (L.map (Value.int .u8)).toArray 5 (0, 0)) ∧ w1.heap.size = w.heap.size + 1) := ⟨hN2.1, hs1⟩
  clear hN2 hd2 N1 HT hs1
  go_wp2_with fail
  refine (len7 w.heap.size L.length n hn _ _ w2 O2.out hB2.size (by omega) T2.out).mono ?_
  rintro e w3 ⟨T, v3, rfl, hT1, hT2, hnT, hnl, hown3, hB3, hSk⟩
  have E3 : Hid (w3.heap[w1.heap.size]? = some (.cells (L.map (Value.int .u8)).toArray 5 (0, 0))) := hSk _ _ E2.out.1 (by simp [Value.ownBlock]; have := E2.out.2; omega) (by simp)
  have hB3' : Below w.heap.size w w3 := hB2.trans hB3
  obtain ⟨G, cap3, rfl, hG1, hG2, hcap3, hgot⟩ := own_row (L := L ++ (digs n T ++ [58])) (n := L.length + T + 1) (by rw [List.map_append]; exact hown3) (by simp [digs_len]; omega) (by omega)
  have G3 : Hid (RowB w3 G (L.length + T + 1) (fun i => (L ++ (digs n T ++ [58])).getD i 0)) := hgot
  have NT : Hid (n < 10 ^ T ∧ (T = 1 ∨ 10 ^ (T - 1) ≤ n)) := ⟨hnT, hnl⟩
  have hE3 : w1.heap.size < w3.heap.size := lt_of_some E3.out
  clear hSk hown3 hB3 hgot hnT hnl hB2 O2 T2 E2
  go_wp2_with fail
  refine (dec_any n (by omega) w3).mono ?_
  rintro e w4 ⟨T', Dg, rfl, hS1, hS2, hnS, hnl2, hdig, hD1, hD2, hB4⟩
  obtain rfl := pow_uniq hS1 hT1 hnS hnl2 NT.out.1 NT.out.2
  have AT : Hid (At w4 G w1.heap.size Dg n T' L) := ⟨rowB_below G3.out hB4 hG2, rowB_below (rowB_heap E3.out) hB4 hE3, digs_row hdig⟩
  have hBw : Below w.heap.size w w4 := hB3'.trans (hB4.mono hB3'.size)
  clear hnS hnl2 hdig hB4 hB3' G3 E3 NT
  have hlen : ((L.length + T' + 1 : Nat) : Int) = (L.length : Int) + (T' : Int) + 1 := by omega
  go_wp2_with fail
  go_loopw [8] (fun i wr => ∃ j q : Nat, j ≤ L.length ∧ i = .int .i64 j ∧ wr = w4.drewN q) (fun i _ => L.length - (intOf i).toNat)
  case atStart => exact ⟨0, 0, by omega, rfl, rfl⟩
  case round =>
    obtain ⟨j, q, hj, rfl, rfl⟩ := hrel
    by_cases hlt : j < L.length
    · obtain ⟨x, c1, c2⟩ := AT.out.one hlt
      have hlt' : (j : Int) < (L.length : Int) := by omega
      have hlt2 : (j : Int) < (L.length : Int) + (T' : Int) + 1 := by omega
      go_wp2_with fail
      go_quiet (fail)
      go_wp2_with fail
      go_roundw
      case rel => exact ⟨j + 1, _, by omega, by go_num, rfl⟩
      case measure => simp [intOf]; omega
    · go_wp2_with fail
      go_loopw [9] (fun i wr => ∃ j q : Nat, j ≤ T' ∧ i = .int .i64 j ∧ wr = w4.drewN q) (fun i _ => T' - (intOf i).toNat)
      case atStart => exact ⟨0, q, by omega, rfl, rfl⟩
      case round =>
        obtain ⟨j2, q2, hj2, rfl, rfl⟩ := hrel
        by_cases hlt2 : j2 < T'
        · obtain ⟨x, c1, c2⟩ := AT.out.two hlt2
          have i1 : (j2 : Int) < (T' : Int) := by omega
          have i2 : (L.length : Int) + (j2 : Int) < (L.length : Int) + (T' : Int) + 1 := by omega
          have i3 : ((L.length : Int) + (j2 : Int)).toNat = L.length + j2 := by omega
          go_wp2_with fail
          go_quiet (fail)
          go_wp2_with fail
          go_roundw
          case rel => exact ⟨j2 + 1, _, by omega, by go_num, rfl⟩
          case measure => simp [intOf]; omega
        · have c1 := AT.out.last
          have i2 : (L.length : Int) + (T' : Int) + 1 - 1 < (L.length : Int) + (T' : Int) + 1 := by omega
          have i3 : ((L.length : Int) + (T' : Int) + 1 - 1).toNat = L.length + T' := by omega
          go_wp2_with fail
          go_ret
          exact ⟨rfl, below_drewN hBw _⟩
set_option maxRecDepth 100000 in
set_option maxHeartbeats 2000000 in
theorem writes_nil (n : Nat) (w : World) (hn : n ≤ 9223372036854775807) (htab : Lib.TabIs Tryd.prog w tabName .u64 Lib.pow10Tab) :
    Calls Tryd.prog 3 #[.slice none 0 0, .int .i64 n] w fun e w' => e = .returned (.bool true) ∧ Below w.heap.size w w' := by
  have HT : Hid (Lib.TabIs Tryd.prog w tabName .u64 Lib.pow10Tab) := htab
  have hn0 : ¬ (n : Int) < 0 := by omega
  have hwr : IntKind.u64.wrap (n : Int) = (n : Int) := by rw [IntKind.wrap_u64]; omega
  clear htab
  go_enter Tryd.func3, Tryd.ntmps3
  go_wp2_with (first | (go_at_call 5; refine (bytes5_y _ _ _ _ _ (by omega)).mono ?_; rintro e w' ⟨rfl, m, rfl⟩) | (go_at_call 6; refine (clone6_nil _).mono ?_; rintro e w' ⟨rfl, m, rfl⟩))
  refine (len7 w.heap.size 0 n hn (.slice none 0 0) [] _ (by exact World.ownsRow_nil _ _ _ _) (by exact Nat.le_refl _) (by omega) (by exact Lib.tabBelow_of_tabIs HT.out _ (below_drewN (Below.refl _ _) _))).mono ?_
  rintro e w3 ⟨T, v3, rfl, hT1, hT2, hnT, hnl, hown3, hB3, hSk⟩
  have hB3' : Below w.heap.size w w3 := (below_drewN (Below.refl _ _) _).trans hB3
  obtain ⟨G, cap3, rfl, hG1, hG2, hcap3, hgot⟩ := own_row (L := digs n T ++ [58]) (n := T + 1) (by have := hown3; rw [Nat.zero_add, List.nil_append] at this; exact this) (by simp [digs_len]) (by omega)
  have G3 : Hid (RowB w3 G (T + 1) (fun i => (digs n T ++ [58]).getD i 0)) := hgot
  have NT : Hid (n < 10 ^ T ∧ (T = 1 ∨ 10 ^ (T - 1) ≤ n)) := ⟨hnT, hnl⟩
  clear hSk hown3 hB3 hgot hnT hnl HT
  go_wp2_with fail
  refine (dec_any n (by omega) w3).mono ?_
  rintro e w4 ⟨T', Dg, rfl, hS1, hS2, hnS, hnl2, hdig, hD1, hD2, hB4⟩
  obtain rfl := pow_uniq hS1 hT1 hnS hnl2 NT.out.1 NT.out.2
  have AT : Hid (At w4 G Dg Dg n T' []) := ⟨by have := rowB_below G3.out hB4 hG2; rw [List.length_nil, Nat.zero_add]; exact this, ⟨fun i hi => by simp at hi, (digs_row hdig).2⟩, digs_row hdig⟩
  have hBw : Below w.heap.size w w4 := hB3'.trans (hB4.mono hB3'.size)
  clear hnS hnl2 hdig hB4 hB3' G3 NT
  have hlen : ((T' + 1 : Nat) : Int) = (T' : Int) + 1 := by omega
  go_wp2_with fail
  go_loopw [8] (fun i wr => i = .int .i64 0 ∧ ∃ q : Nat, wr = w4.drewN q) (fun _ _ => 0)
  case atStart => exact ⟨rfl, 0, rfl⟩
  case round =>
    obtain ⟨rfl, q, rfl⟩ := hrel
    go_wp2_with fail
    go_loopw [9] (fun i wr => ∃ j q : Nat, j ≤ T' ∧ i = .int .i64 j ∧ wr = w4.drewN q) (fun i _ => T' - (intOf i).toNat)
    case atStart => exact ⟨0, q, by omega, rfl, rfl⟩
    case round =>
      obtain ⟨j2, q2, hj2, rfl, rfl⟩ := hrel
      by_cases hlt2 : j2 < T'
      · obtain ⟨x, c1, c2⟩ := AT.out.two hlt2
        rw [List.length_nil, Nat.zero_add] at c1
        have i1 : (j2 : Int) < (T' : Int) := by omega
        have i2 : (j2 : Int) < (T' : Int) + 1 := by omega
        go_wp2_with fail
        go_quiet (fail)
        go_wp2_with fail
        go_roundw
        case rel => exact ⟨j2 + 1, _, by omega, by go_num, rfl⟩
        case measure => simp [intOf]; omega
      · have c1 := AT.out.last
        rw [List.length_nil, Nat.zero_add] at c1
        have i2 : (T' : Int) + 1 - 1 < (T' : Int) + 1 := by omega
        have i3 : ((T' : Int) + 1 - 1).toNat = T' := by omega
        go_wp2_with fail
        go_ret
        exact ⟨rfl, below_drewN hBw _⟩

end Go.Proofs.Qxb6602709aDoor
