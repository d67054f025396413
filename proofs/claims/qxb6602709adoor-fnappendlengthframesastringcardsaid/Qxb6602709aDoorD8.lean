import Derived.Test.Qxb6602709aDoorD7
namespace Go.Proofs.Qxb6602709aDoor
open Go.RowKit

set_option maxRecDepth 100000 in
set_option maxHeartbeats 2000000 in
theorem frames_nil (w : World) (htab : Lib.TabIs Tryd.prog w tabName .u64 Lib.pow10Tab) :
    Calls Tryd.prog 4 #[.slice none 0 0] w fun e w' => e = .returned (.bool true) ∧ Below w.heap.size w w' := by
  have HT : Hid (Lib.TabIs Tryd.prog w tabName .u64 Lib.pow10Tab) := htab
  obtain ⟨i0, hi, hz0, hz1, hz2⟩ := info_parts info5
  clear htab
  go_enter Tryd.func4, Tryd.ntmps4
  go_wp2_with (first | (go_at_call 9; refine (bytes9_y _ _ _ _ (by omega)).mono ?_; rintro e w' ⟨rfl, m, rfl⟩) | (go_at_call 6; refine (clone6_nil _).mono ?_; rintro e w' ⟨rfl, m, rfl⟩))
  refine (len7 w.heap.size 0 0 (by omega) (.slice none 0 0) [] _ (by exact World.ownsRow_nil _ _ _ _) (by exact Nat.le_refl _) (by omega) (by exact Lib.tabBelow_of_tabIs HT.out _ (below_drewN (Below.refl _ _) _))).mono ?_
  rintro e w2 ⟨T, v2, rfl, hT1, hT2, hnT, hnl, hown2, hB2, hSk⟩
  have hT : T = 1 := by
    rcases hnl with h | h
    · exact h
    · have := Nat.pow_pos (n := T - 1) (show 0 < 10 by omega); omega
  subst hT
  have O2 : Hid (w2.ownsRow w.heap.size 5 1 v2 2 ((digs 0 1 ++ [58]).map (Value.int .u8))) := by
    have h := hown2
    rw [Nat.zero_add, List.nil_append] at h
    exact h
  have hBw2 : Below w.heap.size w w2 := (below_drewN (Below.refl _ _) _).trans hB2
  clear hSk hown2 hnT hnl HT hB2
  obtain ⟨G, cap2, hv2, hG1, hG2, hcap2, hraw⟩ := own_row O2.out (by simp [digs_len]) (by omega)
  subst hv2
  have hc0 : w2.cell? ⟨G, 0, none⟩ = some (.int .u8 48) := hraw.1 0 (by omega)
  have hc1 : w2.cell? ⟨G, 1, none⟩ = some (.int .u8 58) := hraw.1 1 (by omega)
  clear hraw
  go_wp2_with (at_builtin; go_loud (refine wpList_append_own_none rfl (.tmp 25) (.tmp 26) 22 rfl w.heap.size 5 i0 1 Tryd.underlying22 hi (.slice (some ⟨G, 0, none⟩) 2 cap2) 2 ((digs 0 1 ++ [58]).map (Value.int .u8)) rfl O2.out rfl ?_))
  refine (zzval10 G 2 cap2 w2).mono ?_
  rintro e w4 ⟨rfl, hB4⟩
  have hd0 : (w4.alloc (Obj.cells #[Value.slice (some ⟨G, 0, none⟩) 2 cap2] 30)).cell? ⟨G, 0, none⟩ = some (.int .u8 48) := by
    rw [World.cell?_alloc_lt _ _ _ (by have := hB4.size; show G < _; omega), hB4.cell (p := ⟨G, 0, none⟩) hG2]; exact hc0
  have hd1 : (w4.alloc (Obj.cells #[Value.slice (some ⟨G, 0, none⟩) 2 cap2] 30)).cell? ⟨G, 1, none⟩ = some (.int .u8 58) := by
    rw [World.cell?_alloc_lt _ _ _ (by have := hB4.size; show G < _; omega), hB4.cell (p := ⟨G, 1, none⟩) hG2]; exact hc1
  have H0 : Hid (_ = some (Value.int .u8 48)) := hd0
  have H1 : Hid (_ = some (Value.int .u8 58)) := hd1
  have hBw4 : Below w.heap.size w w4 := hBw2.trans (hB4.mono hBw2.size)
  have hs4 := hB4.size
  clear hc0 hc1 hd0 hd1 hBw2 hB4
  go_wp2_with fail
  refine (kind11_s G 2 cap2 48 _ (by omega) (by simp; omega) H0.out (by omega) (by omega)).mono ?_
  rintro e w6 ⟨rfl, hB6⟩
  have hd0 : w6.cell? ⟨G, 0, none⟩ = some (.int .u8 48) := by rw [hB6.cell (p := ⟨G, 0, none⟩) (by simp; omega)]; exact H0.out
  have hd1 : w6.cell? ⟨G, 1, none⟩ = some (.int .u8 58) := by rw [hB6.cell (p := ⟨G, 1, none⟩) (by simp; omega)]; exact H1.out
  have k6 : w6.cell? ⟨w4.heap.size, 0, none⟩ = some (.slice (some ⟨G, 0, none⟩) 2 cap2) := by
    rw [hB6.cell (p := ⟨w4.heap.size, 0, none⟩) (by simp), World.cell?_alloc_new]; rfl
  have hBw6 : Below w.heap.size w w6 := (hBw4.alloc hBw4.size _).trans (hB6.mono (by have := hBw4.size; simp; omega))
  have hs6 : w4.heap.size ≤ w6.heap.size := by have := hB6.size; simp at this; omega
  clear H0 H1 hBw4 hB6
  have H0 : Hid (_ = some (Value.int .u8 48)) := hd0
  have H1 : Hid (_ = some (Value.int .u8 58)) := hd1
  clear hd0 hd1
  go_wp2_with fail
  refine (int12_s G 2 cap2 48 _ (by omega) (by omega) H0.out (by omega) (by omega)).mono ?_
  rintro e w7 ⟨rfl, hB7⟩
  have hd0 : w7.cell? ⟨G, 0, none⟩ = some (.int .u8 48) := by rw [hB7.cell (p := ⟨G, 0, none⟩) (by simp; omega)]; exact H0.out
  have hd1 : w7.cell? ⟨G, 1, none⟩ = some (.int .u8 58) := by rw [hB7.cell (p := ⟨G, 1, none⟩) (by simp; omega)]; exact H1.out
  have hBw7 : Below w.heap.size w w7 := hBw6.trans (hB7.mono hBw6.size)
  clear H0 H1 hBw6 hB7 k6
  go_wp2_with fail
  go_loop [8, 9] (fun mv iv => ∃ k : Nat, k ≤ 1 ∧ iv = .int .i64 k ∧ mv = .int .u64 0) (fun _ iv => 1 - (intOf iv).toNat)
  case atStart => exact ⟨0, by omega, rfl, rfl⟩
  case round =>
    obtain ⟨k, hk, rfl, rfl⟩ := hrel
    by_cases hlt : k < 1
    · obtain rfl : k = 0 := by omega
      go_wp2_with fail
      go_round
      case rel => exact ⟨1, by omega, by go_num, by go_num⟩
      case measure => simp [intOf]
    · obtain rfl : k = 1 := by omega
      go_wp2_with fail
      go_loopw [11] (fun i wr => i = .int .i64 0 ∧ ∃ q : Nat, wr = w7.drewN q) (fun _ _ => 0)
      case atStart => exact ⟨rfl, 0, rfl⟩
      case round =>
        obtain ⟨rfl, q, rfl⟩ := hrel
        go_wp2_with fail
        go_ret
        exact ⟨rfl, below_drewN hBw7 _⟩

set_option maxHeartbeats 400000 in
theorem frames_e1 (a0 : Option Addr) (len cap : Nat) (w : World) (h : 1048576 < len) :
    Calls Tryd.prog 4 #[.slice a0 len cap] w fun e w' => e = .returned (.bool true) ∧ Below w.heap.size w w' := by
  go_enter Tryd.func4, Tryd.ntmps4
  go_wp2_with (go_at_call 9; refine (bytes9_n _ _ _ _ (by omega)).mono ?_; rintro e w' ⟨rfl, m, rfl⟩)
  go_ret
  exact ⟨rfl, below_drewN (Below.refl _ _) _⟩

theorem frames_any (a0 : Option Addr) (len cap : Nat) (L : List Int) (w : World) (hin : InB w a0 len cap L) (htab : Lib.TabIs Tryd.prog w tabName .u64 Lib.pow10Tab) :
    Calls Tryd.prog 4 #[.slice a0 len cap] w fun e w' => e = .returned (.bool true) ∧ Below w.heap.size w w' := by
  by_cases h1 : 1048576 < len
  · exact frames_e1 a0 len cap w h1
  rcases hin with ⟨rfl, rfl, rfl⟩ | ⟨x, rfl, rfl, hs⟩
  · exact frames_nil w htab
  · exact frames_some x cap L w (by omega) hs htab
end Go.Proofs.Qxb6602709aDoor
