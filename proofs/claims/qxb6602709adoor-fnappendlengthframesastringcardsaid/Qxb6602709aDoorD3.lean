import Derived.Test.Qxb6602709aDoorD2
import Derived.Laws.Cover3
import Derived.Laws.CopyOwn
namespace Go.Proofs.Qxb6602709aDoor
open Go.RowKit Go.Sort

set_option maxHeartbeats 1000000 in
theorem appint14 (B n u : Nat) (hu : 100 ≤ u) (hu64 : u ≤ 9223372036854775807) (sv : Value) (xs : List Value) (w : World) (hown : w.ownsRow B 5 1 sv n xs) (hBw : B ≤ w.heap.size) (hlim : n + 20 ≤ 140737488355328) (htab : Lib.TabIs Tryd.prog w tabName .u64 Lib.pow10Tab) :
    Calls Tryd.prog 14 #[sv, .int .i64 u, .int .i64 10] w fun e w' => ∃ v', e = .returned v' ∧ w'.ownsRow B 5 1 v' (n + Lib.nDigits u) (xs ++ (digs u (Lib.nDigits u)).map (Value.int .u8)) ∧ w.grownBy w' sv.ownBlock := by
  have hwr : IntKind.u64.wrap (u : Int) = (u : Int) := by rw [IntKind.wrap_u64]; omega
  have hnn : ¬ (u : Int) < 0 := by omega
  have HO : Hid (w.ownsRow B 5 1 sv n xs) := hown
  have HT : Hid (Lib.TabIs Tryd.prog w tabName .u64 Lib.pow10Tab) := htab
  clear hown htab
  go_enter Tryd.func14, Tryd.ntmps14
  go_wp2_with fail
  refine (appuint15 B n u hu (by omega) sv xs w HO.out hBw hlim HT.out).mono ?_
  rintro e w2 ⟨v2, rfl, hown2, hgr2⟩
  have H2 : Hid (w2.ownsRow B 5 1 v2 (n + Lib.nDigits u) (xs ++ (digs u (Lib.nDigits u)).map (Value.int .u8)) ∧ w.grownBy w2 sv.ownBlock) := ⟨hown2, hgr2⟩
  clear hown2 hgr2 HO HT
  go_wp2
  go_ret
  exact ⟨v2, rfl, H2.out⟩

set_option maxHeartbeats 1000000 in
theorem appint13 (B n u : Nat) (hu : 100 ≤ u) (hu64 : u ≤ 9223372036854775807) (sv : Value) (xs : List Value) (w : World) (hown : w.ownsRow B 5 1 sv n xs) (hBw : B ≤ w.heap.size) (hlim : n + 20 ≤ 140737488355328) (htab : Lib.TabIs Tryd.prog w tabName .u64 Lib.pow10Tab) :
    Calls Tryd.prog 13 #[sv, .int .i64 u, .int .i64 10] w fun e w' => ∃ v', e = .returned v' ∧ w'.ownsRow B 5 1 v' (n + Lib.nDigits u) (xs ++ (digs u (Lib.nDigits u)).map (Value.int .u8)) ∧ w.grownBy w' sv.ownBlock := by
  have HO : Hid (w.ownsRow B 5 1 sv n xs) := hown
  have HT : Hid (Lib.TabIs Tryd.prog w tabName .u64 Lib.pow10Tab) := htab
  clear hown htab
  go_enter Tryd.func13, Tryd.ntmps13
  go_wp2_with fail
  refine (appint14 B n u hu hu64 sv xs w HO.out hBw hlim HT.out).mono ?_
  rintro e w2 ⟨v2, rfl, hown2, hgr2⟩
  have H2 : Hid (w2.ownsRow B 5 1 v2 (n + Lib.nDigits u) (xs ++ (digs u (Lib.nDigits u)).map (Value.int .u8)) ∧ w.grownBy w2 sv.ownBlock) := ⟨hown2, hgr2⟩
  clear hown2 hgr2 HO HT
  go_wp2
  go_ret
  exact ⟨v2, rfl, H2.out⟩

/-- rows of at most n bytes (but 'row') stand as they stood -/
def Sk (w w' : World) (n : Nat) (row : Option Nat) : Prop := ∀ E cur, w.heap[E]? = some (.cells cur 5 (0, 0)) → some E ≠ row → cur.size ≤ n → w'.heap[E]? = some (.cells cur 5 (0, 0))

theorem lt_of_some {w : World} {E : Nat} {o : Obj} (h : w.heap[E]? = some o) : E < w.heap.size := (Array.getElem?_eq_some_iff.1 h).1

theorem sk_grown {w w1 : World} {n : Nat} {row : Option Nat} (hg : w.grownBy w1 row) : Sk w w1 n row := fun E cur h hne _ => by
  rw [hg.block E (lt_of_some h) hne]; exact h
theorem sk_alloc {w w1 : World} {n : Nat} {row : Option Nat} (h : Sk w w1 n row) (o : Obj) : Sk w (w1.alloc o) n row := fun E cur a b c => by
  have := h E cur a b c
  rw [Below.heap_alloc w1 o E (lt_of_some this)]; exact this
/-- what owns more than n bytes lies in no row of n bytes -/
theorem own_not {w : World} {B n k : Nat} {v : Value} {xs : List Value} (h : w.ownsRow B 5 1 v k xs) (hk : n < k) {E : Nat} {cur : Array Value} (hE : w.heap[E]? = some (.cells cur 5 (0, 0))) (hc : cur.size ≤ n) : some E ≠ v.ownBlock := by
  obtain ⟨_, h2⟩ := h
  rcases h2 with ⟨_, h0⟩ | ⟨g, cap, cur', rfl, b, c, d, e, f, _⟩
  · omega
  · intro he
    simp only [Value.ownBlock, Option.some.injEq] at he
    subst he
    rw [hE] at c
    cases c
    omega
theorem sk_trans {w w1 w2 : World} {n k : Nat} {row : Option Nat} {B : Nat} {v : Value} {xs : List Value} (h : Sk w w1 n row) (hown : w1.ownsRow B 5 1 v k xs) (hk : n < k) (hg : w1.grownBy w2 v.ownBlock) : Sk w w2 n row := fun E cur a b c => by
  have h1 := h E cur a b c
  rw [hg.block E (lt_of_some h1) (own_not hown hk h1 c)]; exact h1

theorem news_lit (w : World) (l : List Int) (b : Nat) (hb : b = w.heap.size) : ∀ (j : Nat) (u : Value), (l.map (Value.int .u8))[j]? = some u → (w.alloc (.cells (l.map (Value.int .u8)).toArray 5)).cell? ((⟨b, 0, none⟩ : Addr).add j) = some u := by
  intro j u h
  subst hb
  rw [Addr.add_lit, Nat.zero_add, World.cell?_alloc_new, List.getElem?_toArray]
  exact h

theorem digs1 {n : Nat} (h : n < 10) : digs n 1 = [48 + (n : Int)] := by
  simp [digs, dgt]; omega
theorem digs2 {n : Nat} (h : n < 100) : digs n 2 = [48 + (n : Int) / 10, 48 + (n : Int) % 10] := by
  simp [digs, dgt, List.range_succ]; omega

theorem nd_low : ∀ n : Nat, Lib.nDigits n = 1 ∨ 10 ^ (Lib.nDigits n - 1) ≤ n := by
  intro n
  induction n using Nat.strongRecOn with
  | _ n ih =>
    by_cases h : n < 10
    · exact .inl (Lib.nDigits_small h)
    · right
      rw [Lib.nDigits_big h, Nat.add_sub_cancel]
      rcases ih (n / 10) (by omega) with h1 | h1
      · rw [h1]; omega
      · have h2 : Lib.nDigits (n / 10) = Lib.nDigits (n / 10) - 1 + 1 := by have := Lib.nDigits_pos (n / 10); omega
        rw [h2, Nat.pow_succ]; omega

/-- what 'AppendLength' leaves -/
def AL (B k n : Nat) (sv : Value) (xs : List Value) (w : World) (T : Nat) (v' : Value) (w' : World) : Prop :=
  1 ≤ T ∧ T ≤ 20 ∧ n < 10 ^ T ∧ (T = 1 ∨ 10 ^ (T - 1) ≤ n) ∧ w'.ownsRow B 5 1 v' (k + T + 1) (xs ++ (digs n T ++ [58]).map (Value.int .u8)) ∧ Below B w w' ∧ Sk w w' k sv.ownBlock

set_option maxHeartbeats 1000000 in
theorem len7_one (B k n : Nat) (hn : n < 10) (sv : Value) (xs : List Value) (w : World) (hown : w.ownsRow B 5 1 sv k xs) (hBw : B ≤ w.heap.size) (hlim : k ≤ 16777216) :
    Calls Tryd.prog 7 #[sv, .int .i64 n] w fun e w' => ∃ T v', e = .returned v' ∧ AL B k n sv xs w T v' w' := by
  obtain ⟨i0, hi, hz0, hz1, hz2⟩ := info_parts info5
  have HO : Hid (w.ownsRow B 5 1 sv k xs) := hown
  clear hown
  go_enter Tryd.func7, Tryd.ntmps7
  go_wp2_with (at_builtin; go_loud (refine wpList_append_own _ rfl (.tmp 8) (.tmp 12) 22 rfl B 5 i0 (.int .u8 0) 1 1 Tryd.underlying22 hi hz0 hz1 hz2 rfl (by decide) _ k xs rfl (HO.out.alloc _) ⟨w.heap.size, 0, none⟩ 2 2 ([48 + (n : Int), 58].map (Value.int .u8)) rfl rfl (news_lit w [48 + (n : Int), 58] _ rfl) (oneL _) (by unfold maxLen; omega) (by omega) (by simp; omega) ?_); intro v1 w1 hown1 hgrow1 hnil1)
  go_ret
  refine ⟨1, v1, rfl, by omega, by omega, by omega, .inl rfl, ?_, ((Below.refl B w).alloc hBw _).grown hgrow1 (by simp; omega) (fun j hj => (HO.out.lt j hj).1), sk_grown (grown_of ((Below.refl _ _).alloc (Nat.le_refl _) _) hgrow1)⟩
  rw [digs1 hn]
  exact hown1

set_option maxHeartbeats 1000000 in
theorem len7_two (B k n : Nat) (hn0 : ¬ n < 10) (hn : n < 100) (sv : Value) (xs : List Value) (w : World) (hown : w.ownsRow B 5 1 sv k xs) (hBw : B ≤ w.heap.size) (hlim : k ≤ 16777216) :
    Calls Tryd.prog 7 #[sv, .int .i64 n] w fun e w' => ∃ T v', e = .returned v' ∧ AL B k n sv xs w T v' w' := by
  obtain ⟨i0, hi, hz0, hz1, hz2⟩ := info_parts info5
  have HO : Hid (w.ownsRow B 5 1 sv k xs) := hown
  clear hown
  go_enter Tryd.func7, Tryd.ntmps7
  go_wp2_with (at_builtin; go_loud (refine wpList_append_own _ rfl (.tmp 17) (.tmp 26) 22 rfl B 5 i0 (.int .u8 0) 1 1 Tryd.underlying22 hi hz0 hz1 hz2 rfl (by decide) _ k xs rfl (HO.out.alloc _) ⟨w.heap.size, 0, none⟩ 3 3 ([48 + (n : Int) / 10, 48 + (n : Int) % 10, 58].map (Value.int .u8)) rfl rfl (news_lit w [48 + (n : Int) / 10, 48 + (n : Int) % 10, 58] _ rfl) (oneL _) (by unfold maxLen; omega) (by omega) (by simp; omega) ?_); intro v1 w1 hown1 hgrow1 hnil1)
  go_ret
  refine ⟨2, v1, rfl, by omega, by omega, by omega, .inr (by omega), ?_, ((Below.refl B w).alloc hBw _).grown hgrow1 (by simp; omega) (fun j hj => (HO.out.lt j hj).1), sk_grown (grown_of ((Below.refl _ _).alloc (Nat.le_refl _) _) hgrow1)⟩
  rw [digs2 hn]
  exact hown1

set_option maxHeartbeats 1000000 in
theorem len7_big (B k n : Nat) (hn0 : 100 ≤ n) (hn : n ≤ 9223372036854775807) (sv : Value) (xs : List Value) (w : World) (hown : w.ownsRow B 5 1 sv k xs) (hBw : B ≤ w.heap.size) (hlim : k ≤ 16777216) (htab : Lib.TabIs Tryd.prog w tabName .u64 Lib.pow10Tab) :
    Calls Tryd.prog 7 #[sv, .int .i64 n] w fun e w' => ∃ T v', e = .returned v' ∧ AL B k n sv xs w T v' w' := by
  obtain ⟨i0, hi, hz0, hz1, hz2⟩ := info_parts info5
  have HO : Hid (w.ownsRow B 5 1 sv k xs) := hown
  have HT : Hid (Lib.TabIs Tryd.prog w tabName .u64 Lib.pow10Tab) := htab
  have hnd20 : Lib.nDigits n ≤ 20 := by have := Lib.numDigits_eq n (by omega) (by omega); split at this <;> omega
  have hnd1 := Lib.nDigits_pos n
  have hlt : Hid (n < 10 ^ Lib.nDigits n) := Lib.lt_pow_nDigits n
  clear hown htab
  have hi1 : ¬ (n : Int) < 10 := by omega
  have hi2 : ¬ (n : Int) < 100 := by omega
  go_enter Tryd.func7, Tryd.ntmps7
  go_wp2_with fail
  refine (appint13 B k n hn0 hn sv xs w HO.out hBw (by omega) HT.out).mono ?_
  rintro e w1 ⟨v1, rfl, hown1, hgr1⟩
  have O1 : Hid (w1.ownsRow B 5 1 v1 (k + Lib.nDigits n) (xs ++ (digs n (Lib.nDigits n)).map (Value.int .u8))) := hown1
  have hB1 : Below B w w1 := (Below.refl B w).grown hgr1 hBw (fun j hj => (HO.out.lt j hj).1)
  have S1 : Hid (Sk w w1 k sv.ownBlock) := sk_grown hgr1
  clear hown1 hgr1 HT
  have hB1s := hB1.size
  go_wp2_with (at_builtin; go_loud (refine wpList_append_own _ rfl (.tmp 31) (.tmp 32) 22 rfl B 5 i0 (.int .u8 0) 1 1 Tryd.underlying22 hi hz0 hz1 hz2 rfl (by decide) _ (k + Lib.nDigits n) (xs ++ (digs n (Lib.nDigits n)).map (Value.int .u8)) rfl (O1.out.alloc _) ⟨w1.heap.size, 0, none⟩ 1 1 ([58].map (Value.int .u8)) rfl rfl (news_lit w1 [58] _ rfl) (oneL _) (by unfold maxLen; omega) (by omega) (by simp; omega) ?_); intro v2 w2 hown2 hgrow2 hnil2)
  go_ret
  refine ⟨Lib.nDigits n, v2, rfl, hnd1, hnd20, hlt.out, ?_, ?_, (hB1.alloc (by omega) _).grown hgrow2 (by simp; omega) (fun j hj => (O1.out.lt j hj).1), sk_trans (sk_alloc S1.out _) (O1.out.alloc _) (by omega) hgrow2⟩
  · exact nd_low n
  · rw [List.map_append, ← List.append_assoc]
    exact hown2

theorem len7 (B k n : Nat) (hn : n ≤ 9223372036854775807) (sv : Value) (xs : List Value) (w : World) (hown : w.ownsRow B 5 1 sv k xs) (hBw : B ≤ w.heap.size) (hlim : k ≤ 16777216) (htab : Lib.TabIs Tryd.prog w tabName .u64 Lib.pow10Tab) :
    Calls Tryd.prog 7 #[sv, .int .i64 n] w fun e w' => ∃ T v', e = .returned v' ∧ AL B k n sv xs w T v' w' := by
  by_cases h1 : n < 10
  · exact len7_one B k n h1 sv xs w hown hBw hlim
  by_cases h2 : n < 100
  · exact len7_two B k n h1 h2 sv xs w hown hBw hlim
  · exact len7_big B k n (by omega) hn sv xs w hown hBw hlim htab

theorem run_eqnil (a : Option Addr) (l c : Nat) (w : World) : (binOp .eql 22 (.slice a l c) (.slice none 0 0)).run Tryd.prog w = .ok (.bool a.isNone) w := by
  simp only [binOp]
  simp [run_equal_slice_nil w 22 5 a l c Tryd.underlying22]
attribute [local go_sem] run_eqnil

set_option maxHeartbeats 400000 in
theorem clone6_nil (w : World) :
    Calls Tryd.prog 6 #[.slice none 0 0] w fun e w' => e = .returned (.slice none 0 0) ∧ ∃ n, w' = w.drewN n := by
  go_enter Tryd.func6, Tryd.ntmps6
  go_wp2
  go_ret
  exact ⟨rfl, 0, rfl⟩

/-- what 'copy' into a new row of that length leaves -/
theorem run_cprow (w : World) (L : List Int) (a : Addr) (cap : Nat) (hsrc : 0 < L.length → ∀ j u, (L.map (Value.int .u8))[j]? = some u → w.cell? (a.add j) = some u) (ty : TypeId) :
    (Builtin.copy_ #[22, 22] ty #[.slice (some ⟨w.heap.size, 0, none⟩) L.length L.length, .slice (some a) L.length cap]).run Tryd.prog (w.alloc (mkRow L.length)) = .ok (goInt L.length) ((w.alloc (mkRow L.length)).setRow w.heap.size (L.map (Value.int .u8)).toArray) := by
  by_cases h0 : 0 < L.length
  · have h := run_copy_row (P := Tryd.prog) (w.alloc (mkRow L.length)) 22 22 ty 5 w.heap.size 0 L.length L.length a L.length cap (madeCells #[.int .u8 0] L.length) 5 (L.map (Value.int .u8)) Tryd.underlying22 (by kernel_rfl)
      (MapKept.heap_alloc w (mkRow L.length)).1 (by simp)
      (by
        intro j u hu
        have h1 := hsrc h0 j u hu
        rw [World.cell?_alloc_lt]
        · exact h1
        · exact World.block_lt_of_cell? _ _ h1)
      (by simp [size_madeCells]) (oneL L)
    rw [h, List.drop_eq_nil_of_le (by simp [size_madeCells])]
    simp
  · have hL : L = [] := List.eq_nil_of_length_eq_zero (by omega)
    subst hL
    have h := run_copy_none (P := Tryd.prog) (w.alloc (mkRow 0)) 22 22 ty 5 (some ⟨w.heap.size, 0, none⟩) (some a) 0 0 0 cap Tryd.underlying22 (by kernel_rfl) (by simp)
    simp only [List.length_nil]
    rw [h]
    have : ((w.alloc (mkRow 0)).setRow w.heap.size (([] : List Int).map (Value.int .u8)).toArray) = w.alloc (mkRow 0) := setRow_self _ _ _ 5 (0, 0) (by rw [(MapKept.heap_alloc w (mkRow 0)).1]; simp [mkRow, madeCells])
    rw [this]; rfl

/-- a new row of bytes -/
def NewRow (w w' : World) (b : Nat) (L : List Int) : Prop := w'.heap[b]? = some (.cells (L.map (Value.int .u8)).toArray 5 (0, 0)) ∧ w'.heap.size = w.heap.size + 1 ∧ Below w.heap.size w w'

theorem newRow_mk (w : World) (L : List Int) : NewRow w ((w.alloc (mkRow L.length)).setRow w.heap.size (L.map (Value.int .u8)).toArray) w.heap.size L := by
  refine ⟨setRow_heap _ _ _ _ 5 (0, 0) (MapKept.heap_alloc w (mkRow L.length)).1, by simp [World.setRow], ?_⟩
  exact below_setRow ((Below.refl _ _).alloc (Nat.le_refl _) _) (Nat.le_refl _) _

set_option maxHeartbeats 400000 in
theorem clone6_some (a : Addr) (cap : Nat) (L : List Int) (w : World) (hl : L.length ≤ 1048576) (hsrc : 0 < L.length → ∀ j u, (L.map (Value.int .u8))[j]? = some u → w.cell? (a.add j) = some u) :
    Calls Tryd.prog 6 #[.slice (some a) L.length cap] w fun e w' => e = .returned (.slice (some ⟨w.heap.size, 0, none⟩) L.length L.length) ∧ NewRow w w' w.heap.size L := by
  have hmk := run_mk L.length hl
  have hcp := run_cprow w L a cap hsrc 3
  have HN : Hid (NewRow w _ w.heap.size L) := newRow_mk w L
  clear hsrc
  go_enter Tryd.func6, Tryd.ntmps6
  go_wp2
  go_ret
  exact ⟨rfl, HN.out⟩
end Go.Proofs.Qxb6602709aDoor
