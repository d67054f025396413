import Derived.Test.Qxb6602709aB3
namespace Go.Proofs.Qxb6602709a
open Go.RowKit

theorem L_pos {m T k : Nat} (hk : k < T) : (fun i => ([105] ++ digs m T ++ [101]).getD i 0) (1 + k) = dgt m (T - 1 - k) := by
  have h1 : ([105] ++ digs m T ++ [101])[1 + k]? = some (dgt m (T - 1 - k)) := by
    rw [List.append_assoc, List.getElem?_append_right (by simp), List.getElem?_append_left (by simp [digs_len]; omega)]
    simp [digs_get hk]
  show List.getD _ (1 + k) 0 = _
  rw [List.getD_eq_getElem?_getD, h1]; rfl

set_option maxHeartbeats 1000000 in
theorem back_pos (m : Nat) (w : World) (h2 : m ≤ 9223372036854775807) :
    Calls Try.prog 4 #[.int .i64 (m : Int)] w fun e w' => e = .returned (.bool true) ∧ Below w.heap.size w w' := by
  have hwr : IntKind.u64.wrap (m : Int) = (m : Int) := by rw [IntKind.wrap_u64]; omega
  have hnn : ¬ (m : Int) < 0 := by omega
  obtain ⟨i0, hi, hz0, hz1, hz2⟩ := info_parts info5
  have O1 : Hid ((w.alloc (.cells #[.int .u8 105] 5)).ownsRow w.heap.size 5 1 (.slice (some ⟨w.heap.size, 0, none⟩) 1 1) 1 [.int .u8 105]) := World.ownsRow_lit w #[.int .u8 105] 1 (Nat.le_refl _) (by decide) (by simp)
  go_enter Try.func4, Try.ntmps4
  have O2 : Hid ((w.alloc (.cells #[.int .u8 105] 5)).ownsRow w.heap.size 5 1 (.slice (some ⟨w.heap.size, 0, none⟩) 1 1) 1 ([105].map (Value.int .u8))) := O1.out
  clear O1
  go_wp2_with fail
  refine (dec_any m (by omega) _).mono ?_
  rintro e w2 ⟨T, g, rfl, hT1, hT2, hmT, _, hrow, hg1, hg2, hb2⟩
  have O3 : Hid (w2.ownsRow w.heap.size 5 1 (.slice (some ⟨w.heap.size, 0, none⟩) 1 1) 1 ([105].map (Value.int .u8))) := own_below O2.out hb2
  have D3 : Hid (RowB w2 g T (fun i => (digs m T).getD i 0)) := digs_row hrow
  have HT : Hid (m < 10 ^ T) := hmT
  have hB2 : Below w.heap.size w w2 := ((Below.refl _ _).alloc (Nat.le_refl _) _).trans (hb2.mono (by simp))
  clear O2 hrow hmT hb2
  go_wp2_with (first | (at_builtin; refine wpList_append_own _ rfl (.tmp 20) (.tmp 22) 22 rfl w.heap.size 5 i0 (.int .u8 0) 1 1 Try.underlying22 hi hz0 hz1 hz2 rfl (by decide) _ 1 ([105].map (Value.int .u8)) rfl O3.out ⟨g, 0, none⟩ T T ((digs m T).map (Value.int .u8)) rfl (by simp [digs_len]) (rowB_news D3.out (digs_len m T)) (oneL _) (by unfold maxLen; omega) (by omega) hB2.size ?_; intro v3 w3 hown3 hgrow3 hnil3; have O4 : Hid (w3.ownsRow w.heap.size 5 1 v3 (1 + T) (([105] ++ digs m T).map (Value.int .u8))) := (by rw [List.map_append]; exact hown3); have hB3 : Below w.heap.size w w3 := hB2.grown hgrow3 hB2.size (fun k hk => (O3.out.lt k hk).1); clear hown3 hgrow3 hnil3 O3 D3 hB2) | (at_builtin; refine wpList_append_own _ rfl (.tmp 24) (.tmp 25) 22 rfl w.heap.size 5 i0 (.int .u8 0) 1 1 Try.underlying22 hi hz0 hz1 hz2 rfl (by decide) _ (1 + T) (([105] ++ digs m T).map (Value.int .u8)) rfl (O4.out.alloc _) ⟨w3.heap.size, 0, none⟩ 1 1 [.int .u8 101] rfl rfl (new1 _ _ _ _ rfl) (one1 _) (by unfold maxLen; omega) (by omega) (by have := hB3.size; simp; omega) ?_; intro v4 w4 hown4 hgrow4 hnil4))
  have hown5 : w4.ownsRow w.heap.size 5 1 v4 (T + 2) (([105] ++ digs m T ++ [101]).map (Value.int .u8)) := by rw [List.map_append, show T + 2 = 1 + T + 1 from by omega]; exact hown4
  have hB4 : Below w.heap.size w w4 := (hB3.alloc hB3.size _).grown hgrow4 (by have := hB3.size; simp; omega) (fun k hk => (O4.out.lt k hk).1)
  obtain ⟨g4, cap4, rfl, hg3, hg4, hcap, hrow⟩ := own_row hown5 (by simp [digs_len]) (by omega)
  have R4 : Hid (RowB w4 g4 (T + 2) (fun i => ([105] ++ digs m T ++ [101]).getD i 0)) := hrow
  clear hown4 hown5 hgrow4 hnil4 O4 hB3 hrow
  go_wp2_with fail
  refine (zzval7 _ w4 rfl g4 (T + 2) cap4 rfl).mono ?_
  rintro e w5 ⟨rfl, hb5⟩
  have hg5 : g4 < w5.heap.size := Nat.lt_of_lt_of_le hg4 hb5.size
  have R5 : Hid (RowB (w5.alloc (.cells #[.slice (some ⟨g4, 0, none⟩) (T + 2) cap4] 26)) g4 (T + 2) (fun i => ([105] ++ digs m T ++ [101]).getD i 0)) := rowB_alloc (rowB_below R4.out hb5 hg4) hg5 _
  have hB5 : Below w.heap.size w w5 := hB4.trans (hb5.mono hB4.size)
  clear R4 hB4 hb5
  go_wp2_with fail
  refine (int8_pos m T g4 cap4 _ _ hT1 hT2 HT.out h2 (by simp; omega) R5.out hcap rfl (fun k hk => L_pos hk)).mono ?_
  rintro e w6 ⟨rfl, hb6⟩
  have k6 : w6.cell? ⟨w5.heap.size, 0, none⟩ = some (.slice (some ⟨g4, 0, none⟩) (T + 2) cap4) := by
    rw [hb6.cell (p := ⟨w5.heap.size, 0, none⟩) (by simp), World.cell?_alloc_new]; rfl
  have hB6 : Below w.heap.size w w6 := (hB5.alloc hB5.size _).trans (hb6.mono (by have := hB5.size; simp; omega))
  have c6 : w6.cell? ⟨g4, 0, none⟩ = some (.int .u8 105) := by rw [(rowB_below R5.out hb6 (by simp; omega)).1 0 (by omega)]; rfl
  have hg6 : g4 < w6.heap.size := by have := hb6.size; simp at this; omega
  have C6 : Hid (_ = some (Value.int .u8 105)) := c6
  clear R5 hB5 hb6 c6
  go_wp2_with (go_at_call 12; refine (kind12_i g4 (T + 2) cap4 _ (by omega) hg6 C6.out).mono ?_; rintro e w7 ⟨rfl, hb7⟩)
  go_ret
  exact ⟨rfl, hB6.trans (hb7.mono hB6.size)⟩
end Go.Proofs.Qxb6602709a
