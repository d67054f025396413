import Derived.Test.Qxb6602709aB2
namespace Go.Proofs.Qxb6602709a
open Go.RowKit

set_option maxHeartbeats 1000000 in
theorem int8_pos (m T g cap : Nat) (R : Nat → Int) (w : World) (hT : 1 ≤ T) (hT2 : T ≤ 20) (hm : m < 10 ^ T) (hm2 : m ≤ 9223372036854775807) (hg : g < w.heap.size) (hR : RowB w g (T + 2) R) (hcap : T + 2 ≤ cap)
    (h0 : R 0 = 105) (hd : ∀ k, k < T → R (1 + k) = dgt m (T - 1 - k)) :
    Calls Try.prog 8 #[.agg #[.slice (some ⟨g, 0, none⟩) (T + 2) cap]] w fun e w' => e = .returned (.tuple #[.int .i64 (m : Int), .bool true]) ∧ Below w.heap.size w w' := by
  have hRa := rowB_alloc hR hg (.cells #[.slice (some ⟨g, 0, none⟩) (T + 2) cap] 26)
  have c0 : (w.alloc (.cells #[.slice (some ⟨g, 0, none⟩) (T + 2) cap] 26)).cell? ⟨g, 0, none⟩ = some (.int .u8 105) := by rw [hRa.1 0 (by omega), h0]
  have HC0 : Hid (_ = some (Value.int .u8 105)) := c0
  have HRa : Hid (RowB _ g (T + 2) R ∧ (∀ k, k < T → R (1 + k) = dgt m (T - 1 - k)) ∧ m < 10 ^ T) := ⟨hRa, hd, hm⟩
  clear hR h0 hd hm hRa c0
  go_enter Try.func8, Try.ntmps8
  go_wp2_with fail
  refine (kind12_i g (T + 2) cap _ (by omega) (by simp; omega) HC0.out).mono ?_
  rintro e w1 ⟨rfl, hb⟩
  have hB1 : Below w.heap.size w w1 := ((Below.refl _ _).alloc (Nat.le_refl _) _).trans (hb.mono (by simp))
  have k1 : w1.cell? ⟨w.heap.size, 0, none⟩ = some (.slice (some ⟨g, 0, none⟩) (T + 2) cap) := by
    rw [hb.cell (p := ⟨w.heap.size, 0, none⟩) (by simp), World.cell?_alloc_new]; rfl
  have hR1 := rowB_below HRa.out.1 hb (by simp; omega)
  obtain ⟨f, c1, hf⟩ : ∃ f : Int, w1.cell? ⟨g, 1, none⟩ = some (.int .u8 f) ∧ (f == 45) = false := by
    refine ⟨dgt m (T - 1 - 0), by rw [hR1.1 1 (by omega), ← HRa.out.2.1 0 (by omega)], ?_⟩
    have := dgt_bd m (T - 1 - 0)
    exact beq_eq_false_iff_ne.2 (by omega)
  have HR : Hid (RowB w1 g (T + 2) R ∧ (∀ k, k < T → R (1 + k) = dgt m (T - 1 - k)) ∧ m < 10 ^ T) := ⟨hR1, HRa.out.2⟩
  clear HC0 HRa hb hR1
  have hc1 : ¬ cap = 1 := by omega
  go_wp2_with fail
  go_loop [6, 29] (fun nv iv => ∃ k p : Nat, k ≤ T ∧ iv = .int .i64 k ∧ nv = .int .i64 (-(p : Int)) ∧ Hid (p = m / 10 ^ (T - k))) (fun _ iv => T - (intOf iv).toNat)
  case atStart => exact ⟨0, 0, by omega, rfl, rfl, (by rw [Nat.sub_zero, Nat.div_eq_of_lt HR.out.2.2] : (0 : Nat) = m / 10 ^ (T - 0))⟩
  case round =>
    obtain ⟨k, p, hk, rfl, rfl, hp⟩ := hrel
    by_cases hlt : k < T
    · obtain ⟨c, D, hcell, hcd, hD, hbd, N⟩ : ∃ (c : Int) (D : Nat), w1.cell? ⟨g, 1 + k, none⟩ = some (.int .u8 c) ∧ c = 48 + (D : Int) ∧ D ≤ 9 ∧ 10 * p + D ≤ 9223372036854775808 ∧ Hid (10 * p + D = m / 10 ^ (T - (k + 1))) := by
        have hst := digit_step hlt hp.out
        have hle : m / 10 ^ (T - (k + 1)) ≤ m := Nat.div_le_self _ _
        exact ⟨dgt m (T - 1 - k), m / 10 ^ (T - 1 - k) % 10, by rw [HR.out.1.1 (1 + k) (by omega), HR.out.2.1 k hlt], rfl, by omega, by omega, hst⟩
      have htd : ¬ (-(p : Int)) < (-9223372036854775808 + (c - 48)).tdiv 10 := by
        rw [hcd, show 48 + (D : Int) - 48 = (D : Int) from by omega]; exact tdiv_ge hbd hD
      have hc48 : 48 ≤ c ∧ c ≤ 57 := by omega
      have hq1 : -9223372036854775808 ≤ 10 * -(p : Int) - (c - 48) := by omega
      have HCD : Hid (c = 48 + (D : Int)) := hcd
      clear hcd hp
      go_wp2_with fail
      go_round
      case rel => exact ⟨k + 1, 10 * p + D, by omega, by go_num, by have := HCD.out; go_num, N⟩
      case measure => simp [intOf]; omega
    · have hpm : p = m := by
        have := hp.out
        rw [show T - k = 0 from by omega] at this
        simpa using this
      subst hpm
      have hne : (-(p : Int) == -9223372036854775808) = false := beq_eq_false_iff_ne.2 (by omega)
      go_wp2_with fail
      go_ret2
      exact ⟨by go_num, hB1⟩

/-- what is owned stays owned behind a call that writes nothing old -/
theorem own_below {w w' : World} {B n : Nat} {v : Value} {xs : List Value} (h : w.ownsRow B 5 1 v n xs) (hb : Below w.heap.size w w') : w'.ownsRow B 5 1 v n xs := by
  obtain ⟨h1, h2⟩ := h
  refine ⟨h1, ?_⟩
  rcases h2 with h2 | ⟨g, cap, cur, a, b, c, d⟩
  · exact .inl h2
  · refine .inr ⟨g, cap, cur, a, b, ?_, d⟩
    have hl : g < w.heap.size := by
      rcases Nat.lt_or_ge g w.heap.size with h | h
      · exact h
      · rw [Array.getElem?_eq_none (by omega)] at c; cases c
    rw [hb.block g hl]; exact c

theorem own_row {w : World} {B n : Nat} {v : Value} {L : List Int} (h : w.ownsRow B 5 1 v n (L.map (Value.int .u8))) (hn : L.length = n) (h0 : 0 < n) :
    ∃ g cap, v = .slice (some ⟨g, 0, none⟩) n cap ∧ B ≤ g ∧ g < w.heap.size ∧ n ≤ cap ∧ RowB w g n (fun i => L.getD i 0) := by
  have hh := h
  obtain ⟨h1, h2⟩ := h
  rcases h2 with ⟨_, h2⟩ | ⟨g, cap, cur, rfl, b, c, d, e, f, k⟩
  · omega
  · have hl : g < w.heap.size := by
      rcases Nat.lt_or_ge g w.heap.size with h | h
      · exact h
      · rw [Array.getElem?_eq_none (by omega)] at c; cases c
    refine ⟨g, cap, rfl, b, hl, d, fun i hi => ?_, fun i => hh.frozenAt i⟩
    rw [hh.cellAt i (by omega)]
    simp [List.getD, show i < L.length from by omega]

theorem wrap_neg (m : Nat) (h1 : 1 ≤ m) (h2 : m ≤ 9223372036854775808) : IntKind.u64.wrap (-IntKind.u64.wrap (-(m : Int))) = (m : Int) := by
  rw [IntKind.wrap_u64, IntKind.wrap_u64]; omega

/-- the bytes of decimalU -/
def digs (m T : Nat) : List Int := (List.range T).map fun j => dgt m (T - 1 - j)
theorem digs_len (m T : Nat) : (digs m T).length = T := by simp [digs]
theorem digs_get {m T k : Nat} (h : k < T) : (digs m T)[k]? = some (dgt m (T - 1 - k)) := by simp [digs, h]

theorem new1 (w : World) (x : Int) (t : TypeId) (b : Nat) (hb : b = w.heap.size) : ∀ (j : Nat) (u : Value), [Value.int .u8 x][j]? = some u → (w.alloc (.cells #[.int .u8 x] t)).cell? ((⟨b, 0, none⟩ : Addr).add j) = some u := by
  intro j u h
  subst hb
  match j, h with
  | 0, h =>
    simp at h
    subst h
    rw [Addr.add_lit, World.cell?_alloc_new]; rfl
theorem one1 (x : Int) : ∀ u ∈ [Value.int .u8 x], u.oneCell' = true := by intro u h; simp at h; subst h; rfl
theorem rowB_news {w : World} {g n : Nat} {L : List Int} (h : RowB w g n (fun i => L.getD i 0)) (hn : L.length = n) : ∀ (j : Nat) (u : Value), (L.map (Value.int .u8))[j]? = some u → w.cell? ((⟨g, 0, none⟩ : Addr).add j) = some u := by
  intro j u hu
  simp only [List.getElem?_map, Option.map_eq_some_iff] at hu
  obtain ⟨k, hk, rfl⟩ := hu
  obtain ⟨hj, rfl⟩ := List.getElem?_eq_some_iff.1 hk
  rw [Addr.add_lit, Nat.zero_add, h.1 j (by omega)]
  simp [List.getD, hj]
theorem oneL (L : List Int) : ∀ u ∈ L.map (Value.int .u8), u.oneCell' = true := by intro u h; simp at h; obtain ⟨k, _, rfl⟩ := h; rfl
theorem digs_row {w : World} {g m T : Nat} (h : RowB w g T (fun j => dgt m (T - 1 - j))) : RowB w g T (fun i => (digs m T).getD i 0) :=
  ⟨fun i hi => by rw [h.1 i hi]; simp [List.getD, digs_get hi], h.2⟩

theorem L_neg {m T k : Nat} (hk : k < T) : (fun i => ([105, 45] ++ digs m T ++ [101]).getD i 0) (2 + k) = dgt m (T - 1 - k) := by
  have h1 : ([105, 45] ++ digs m T ++ [101])[2 + k]? = some (dgt m (T - 1 - k)) := by
    rw [List.append_assoc, List.getElem?_append_right (by simp), List.getElem?_append_left (by simp [digs_len]; omega)]
    simp [digs_get hk]
  show List.getD _ (2 + k) 0 = _
  rw [List.getD_eq_getElem?_getD, h1]; rfl

set_option maxHeartbeats 1000000 in
theorem back_neg (m : Nat) (w : World) (h1 : 1 ≤ m) (h2 : m ≤ 9223372036854775808) :
    Calls Try.prog 4 #[.int .i64 (-(m : Int))] w fun e w' => e = .returned (.bool true) ∧ Below w.heap.size w w' := by
  have hwr := wrap_neg m h1 h2
  obtain ⟨i0, hi, hz0, hz1, hz2⟩ := info_parts info5
  have O1 : Hid ((w.alloc (.cells #[.int .u8 105] 5)).ownsRow w.heap.size 5 1 (.slice (some ⟨w.heap.size, 0, none⟩) 1 1) 1 [.int .u8 105]) := World.ownsRow_lit w #[.int .u8 105] 1 (Nat.le_refl _) (by decide) (by simp)
  go_enter Try.func4, Try.ntmps4
  go_wp2_with (at_builtin; go_loud (refine wpList_append_own _ rfl (.tmp 17) (.tmp 18) 22 rfl w.heap.size 5 i0 (.int .u8 0) 1 1 Try.underlying22 hi hz0 hz1 hz2 rfl (by decide) _ 1 [.int .u8 105] rfl (O1.out.alloc _) ⟨w.heap.size + 1, 0, none⟩ 1 1 [.int .u8 45] rfl rfl (new1 _ _ _ _ (by simp)) (one1 _) (by decide) (by decide) (by simp; omega) ?_); intro v1 w1 hown1 hgrow1 hnil1)
  have O2 : Hid (w1.ownsRow w.heap.size 5 1 v1 2 ([105, 45].map (Value.int .u8))) := hown1
  have hB1 : Below w.heap.size w w1 := Below.grown (((Below.refl _ _).alloc (Nat.le_refl _) _).alloc (by simp) _) hgrow1 (by simp; omega) (fun k hk => (O1.out.lt k hk).1)
  clear hown1 hgrow1 hnil1 O1
  go_wp2_with fail
  refine (dec_any m (by omega) w1).mono ?_
  rintro e w2 ⟨T, g, rfl, hT1, hT2, hmT, _, hrow, hg1, hg2, hb2⟩
  have O3 : Hid (w2.ownsRow w.heap.size 5 1 v1 2 ([105, 45].map (Value.int .u8))) := own_below O2.out hb2
  have D3 : Hid (RowB w2 g T (fun i => (digs m T).getD i 0)) := digs_row hrow
  have HT : Hid (m < 10 ^ T) := hmT
  have hB2 : Below w.heap.size w w2 := hB1.trans (hb2.mono hB1.size)
  clear O2 hrow hmT hb2 hB1
  go_wp2_with (first | (at_builtin; refine wpList_append_own _ rfl (.tmp 20) (.tmp 22) 22 rfl w.heap.size 5 i0 (.int .u8 0) 1 1 Try.underlying22 hi hz0 hz1 hz2 rfl (by decide) _ 2 ([105, 45].map (Value.int .u8)) rfl O3.out ⟨g, 0, none⟩ T T ((digs m T).map (Value.int .u8)) rfl (by simp [digs_len]) (rowB_news D3.out (digs_len m T)) (oneL _) (by unfold maxLen; omega) (by omega) hB2.size ?_; intro v3 w3 hown3 hgrow3 hnil3; have O4 : Hid (w3.ownsRow w.heap.size 5 1 v3 (2 + T) (([105, 45] ++ digs m T).map (Value.int .u8))) := (by rw [List.map_append]; exact hown3); have hB3 : Below w.heap.size w w3 := hB2.grown hgrow3 hB2.size (fun k hk => (O3.out.lt k hk).1); clear hown3 hgrow3 hnil3 O3 D3 hB2) | (at_builtin; refine wpList_append_own _ rfl (.tmp 24) (.tmp 25) 22 rfl w.heap.size 5 i0 (.int .u8 0) 1 1 Try.underlying22 hi hz0 hz1 hz2 rfl (by decide) _ (2 + T) (([105, 45] ++ digs m T).map (Value.int .u8)) rfl (O4.out.alloc _) ⟨w3.heap.size, 0, none⟩ 1 1 [.int .u8 101] rfl rfl (new1 _ _ _ _ rfl) (one1 _) (by unfold maxLen; omega) (by omega) (by have := hB3.size; simp; omega) ?_; intro v4 w4 hown4 hgrow4 hnil4))
  have hown5 : w4.ownsRow w.heap.size 5 1 v4 (T + 3) (([105, 45] ++ digs m T ++ [101]).map (Value.int .u8)) := by rw [List.map_append, show T + 3 = 2 + T + 1 from by omega]; exact hown4
  have hB4 : Below w.heap.size w w4 := (hB3.alloc hB3.size _).grown hgrow4 (by have := hB3.size; simp; omega) (fun k hk => (O4.out.lt k hk).1)
  obtain ⟨g4, cap4, rfl, hg3, hg4, hcap, hrow⟩ := own_row hown5 (by simp [digs_len]) (by omega)
  have R4 : Hid (RowB w4 g4 (T + 3) (fun i => ([105, 45] ++ digs m T ++ [101]).getD i 0)) := hrow
  clear hown4 hown5 hgrow4 hnil4 O4 hB3 hrow
  go_wp2_with fail
  refine (zzval7 _ w4 rfl g4 (T + 3) cap4 rfl).mono ?_
  rintro e w5 ⟨rfl, hb5⟩
  have hg5 : g4 < w5.heap.size := Nat.lt_of_lt_of_le hg4 hb5.size
  have R5 : Hid (RowB (w5.alloc (.cells #[.slice (some ⟨g4, 0, none⟩) (T + 3) cap4] 26)) g4 (T + 3) (fun i => ([105, 45] ++ digs m T ++ [101]).getD i 0)) := rowB_alloc (rowB_below R4.out hb5 hg4) hg5 _
  have hB5 : Below w.heap.size w w5 := hB4.trans (hb5.mono hB4.size)
  clear R4 hB4 hb5
  go_wp2_with fail
  refine (int8_neg m T g4 cap4 _ _ hT1 hT2 HT.out h2 (by simp; omega) R5.out hcap rfl rfl (fun k hk => L_neg hk)).mono ?_
  rintro e w6 ⟨rfl, hb6⟩
  have k6 : w6.cell? ⟨w5.heap.size, 0, none⟩ = some (.slice (some ⟨g4, 0, none⟩) (T + 3) cap4) := by
    rw [hb6.cell (p := ⟨w5.heap.size, 0, none⟩) (by simp), World.cell?_alloc_new]; rfl
  have hB6 : Below w.heap.size w w6 := (hB5.alloc hB5.size _).trans (hb6.mono (by have := hB5.size; simp; omega))
  have c6 : w6.cell? ⟨g4, 0, none⟩ = some (.int .u8 105) := by rw [(rowB_below R5.out hb6 (by simp; omega)).1 0 (by omega)]; rfl
  have hg6 : g4 < w6.heap.size := by have := hb6.size; simp at this; omega
  have C6 : Hid (_ = some (Value.int .u8 105)) := c6
  clear R5 hB5 hb6 c6
  go_wp2_with (go_at_call 12; refine (kind12_i g4 (T + 3) cap4 _ (by omega) hg6 C6.out).mono ?_; rintro e w7 ⟨rfl, hb7⟩)
  go_ret
  exact ⟨rfl, hB6.trans (hb7.mono hB6.size)⟩
end Go.Proofs.Qxb6602709a
