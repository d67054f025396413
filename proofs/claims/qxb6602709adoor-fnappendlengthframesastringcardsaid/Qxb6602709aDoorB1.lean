import Derived.Test.Qxb6602709aDoorRows
import Derived.WalkKit
import Derived.WalkSpells
import Derived.WalkLawsBesides
import Derived.WalkSmall
import Derived.LoopTactic
namespace Go.Proofs.Qxb6602709aDoor
open Go.RowKit

theorem info5 : (Tryd.prog.info? 5).map (fun i => (i.zero, i.size, i.bytes)) = some (some (.int .u8 0), 1, 1) := by kernel_rfl

def mkRow (n : Nat) : Obj := .cells (madeCells #[.int .u8 0] n) 5
theorem run_mk (n : Nat) (h : n ≤ 1048576) (w : World) :
    (Instr.makeSlice 22 (.int .i64 (n : Int)) (.int .i64 (n : Int))).run Tryd.prog w = .ok (.slice (some ⟨w.heap.size, 0, none⟩) n n) (w.alloc (mkRow n)) := by
  obtain ⟨i, hi, hz, hs, hb⟩ := info_parts info5
  have := run_make (P := Tryd.prog) w 22 5 i (.int .u8 0) Tryd.underlying22 hi hz .i64 .i64 n n (by omega) (by omega) (by rw [hb]; omega) (by omega)
  rw [hs] at this
  simpa [mkRow, Value.cells] using this

/-- n cells of block b, the bytes f -/
def RowB (w : World) (b n : Nat) (f : Nat → Int) : Prop := (∀ i, i < n → w.cell? ⟨b, i, none⟩ = some (.int .u8 (f i))) ∧ ∀ i, w.frozen? ⟨b, i, none⟩ = false

theorem cset_same {w : World} {b i : Nat} {v v' : Value} (h : w.cell? ⟨b, i, none⟩ = some v) : (w.setCell ⟨b, i, none⟩ v').cell? ⟨b, i, none⟩ = some v' := by go_simp
theorem cset_other {w : World} {b i j : Nat} {v' : Value} (h : i ≠ j) : (w.setCell ⟨b, i, none⟩ v').cell? ⟨b, j, none⟩ = w.cell? ⟨b, j, none⟩ := by
  have : (⟨b, i, none⟩ : Addr) ≠ ⟨b, j, none⟩ := by intro e; cases e; exact h rfl
  go_simp
theorem bset {a w : World} {b i : Nat} {B : Nat} {v : Value} (h : Below B a w) (hb : B ≤ b) : Below B a (w.setCell ⟨b, i, none⟩ v) := h.setCell hb v

theorem rowB_new (w : World) (n : Nat) : RowB (w.alloc (mkRow n)) w.heap.size n (fun _ => 0) := by
  refine ⟨fun i hi => ?_, fun i => World.frozen?_alloc_new w _ _ i⟩
  have := World.cell?_alloc_new w (madeCells #[.int .u8 0] n) 5 i
  rw [mkRow, this]
  simp [madeCells, hi, Nat.mod_one]
theorem rowB_set {w : World} {b n : Nat} {f : Nat → Int} (h : RowB w b n f) {k : Nat} (hk : k < n) (x : Int) : RowB (w.setCell ⟨b, k, none⟩ (.int .u8 x)) b n (fun i => if i = k then x else f i) := by
  refine ⟨fun i hi => ?_, fun i => by rw [World.frozen?_setCell]; exact h.2 i⟩
  by_cases e : i = k
  · subst e; simp; exact cset_same (h.1 i hi)
  · rw [cset_other (fun x => e x.symm), h.1 i hi]; simp [e]
theorem rowB_below {w w' : World} {b n : Nat} {f : Nat → Int} (h : RowB w b n f) (hb : Below w.heap.size w w') (hl : b < w.heap.size) : RowB w' b n f :=
  ⟨fun i hi => by rw [hb.cell (p := ⟨b, i, none⟩) hl]; exact h.1 i hi, fun i => by rw [hb.frozen (p := ⟨b, i, none⟩) hl]; exact h.2 i⟩

set_option maxHeartbeats 400000 in
theorem dec_zero (w : World) :
    Calls Tryd.prog 8 #[.int .u64 0] w fun e w' => e = .returned (.slice (some ⟨w.heap.size, 0, none⟩) 1 1) ∧ w' = w.alloc (.cells #[.int .u8 48] 5) := by
  go_enter Tryd.func8, Tryd.ntmps8
  go_wp2
  go_ret
  exact ⟨rfl, rfl⟩

/-- the digit of m at place t, as a byte -/
def dgt (m t : Nat) : Int := 48 + ((m / 10 ^ t % 10 : Nat) : Int)

theorem row20 (w : World) : RowB (w.alloc (.cells #[.int .u8 0, .int .u8 0, .int .u8 0, .int .u8 0, .int .u8 0, .int .u8 0, .int .u8 0, .int .u8 0, .int .u8 0, .int .u8 0, .int .u8 0, .int .u8 0, .int .u8 0, .int .u8 0, .int .u8 0, .int .u8 0, .int .u8 0, .int .u8 0, .int .u8 0, .int .u8 0] 37)) w.heap.size 20 (fun _ => 0) := by
  refine ⟨fun i hi => ?_, fun i => World.frozen?_alloc_new w _ _ i⟩
  rw [World.cell?_alloc_new]
  have : i = 0 ∨ i = 1 ∨ i = 2 ∨ i = 3 ∨ i = 4 ∨ i = 5 ∨ i = 6 ∨ i = 7 ∨ i = 8 ∨ i = 9 ∨ i = 10 ∨ i = 11 ∨ i = 12 ∨ i = 13 ∨ i = 14 ∨ i = 15 ∨ i = 16 ∨ i = 17 ∨ i = 18 ∨ i = 19 := by omega
  rcases this with rfl | rfl | rfl | rfl | rfl | rfl | rfl | rfl | rfl | rfl | rfl | rfl | rfl | rfl | rfl | rfl | rfl | rfl | rfl | rfl <;> rfl

theorem run_sl20 (b i t : Nat) (h : i + t = 20) (h0 : 0 < t) (w : World) :
    (Instr.sliceAt 37 (.pointer (some ⟨b, 0, none⟩)) (some (.int .i64 (i : Int))) none none).run Tryd.prog w = .ok (.slice (some ⟨b, i, none⟩) t t) w := by
  have hu : Tryd.prog.underlying 37 = some (.array (Tryd.prog.arrayLen 37) (Tryd.prog.elem 37)) := by kernel_rfl
  have hl : Tryd.prog.arrayLen 37 = 20 := by kernel_rfl
  have hz : (sizeOf (Tryd.prog.elem 37)).run Tryd.prog w = .ok 1 w := by kernel_rfl
  rw [run_sliceAt_array_l w 37 ⟨b, 0, none⟩ hu .i64 (i : Int) (by omega) (by rw [hl]; omega), hz, hl]
  simp only [Result.andThen_ok, slicedAt, Int.toNat_natCast]
  rw [if_neg (by omega)]
  simp [Addr.add]
  omega

/-- what 'copy' of t bytes into a new row leaves -/
theorem run_cp (g b i t : Nat) (f : Nat → Int) (w : World) (hsrc : ∀ j, j < t → w.cell? ⟨b, i + j, none⟩ = some (.int .u8 (f j))) (hd : RowB w g t (fun _ => 0)) (ty : TypeId) :
    ∃ w', (Builtin.copy_ #[22, 22] ty #[.slice (some ⟨g, 0, none⟩) t t, .slice (some ⟨b, i, none⟩) t t]).run Tryd.prog w = .ok (goInt t) w' ∧ RowB w' g t f ∧ ∀ B w0, B ≤ g → Below B w0 w → Below B w0 w' ∧ w'.heap.size = w.heap.size := by
  have hlen : ((List.range t).map fun j => Value.int .u8 (f j)).length = t := by simp
  have h := run_copy_cells (P := Tryd.prog) w 22 22 ty 5 g 0 t t ⟨b, i, none⟩ t t ((List.range t).map fun j => .int .u8 (f j)) Tryd.underlying22 (by kernel_rfl) (by simp)
    (by
      intro j v hv
      simp only [List.getElem?_map, Option.map_eq_some_iff] at hv
      obtain ⟨k, hk, rfl⟩ := hv
      obtain ⟨h1, h2⟩ := List.getElem?_eq_some_iff.1 hk
      simp at h1 h2
      subst h2
      rw [Addr.add_lit]; exact hsrc j h1)
    (by
      intro j hj
      rw [hlen] at hj
      rw [Nat.zero_add, hd.1 j hj]; rfl)
    (by intro j _; rw [Nat.zero_add]; exact hd.2 j)
    (by
      intro v hv
      simp at hv
      obtain ⟨k, _, rfl⟩ := hv
      rfl)
  rw [hlen] at h
  refine ⟨_, h, ⟨fun k hk => ?_, fun k => by rw [World.frozen?_setCells]; exact hd.2 k⟩, fun B w0 hB hb => ?_⟩
  · have := World.cell?_setCells_in g ((List.range t).map fun j => Value.int .u8 (f j)) 0 w (by
      intro j hj
      rw [hlen] at hj
      rw [Nat.zero_add, hd.1 j hj]; rfl) k (by rw [hlen]; exact hk)
    rw [Nat.zero_add] at this
    rw [this]; simp
  · generalize ((List.range t).map fun j => Value.int .u8 (f j)) = vs
    have key : ∀ (vs : List Value) (o : Nat) (w : World), Below B w0 w → Below B w0 (w.setCells g o vs) ∧ (w.setCells g o vs).heap.size = w.heap.size := by
      intro vs
      induction vs with
      | nil => intro o w h; exact ⟨h, rfl⟩
      | cons v vs ih =>
        intro o w h
        have := ih (o + 1) (w.setCell ⟨g, o, none⟩ v) (bset h hB)
        exact ⟨this.1, by rw [World.setCells, this.2]; simp⟩
    exact key vs 0 w hb

theorem pow_lt20 {m t : Nat} (hm : m < 18446744073709551616) (h : 10 ^ t ≤ m) : t < 20 := by
  have h1 : 10 ^ t < 10 ^ 20 := Nat.lt_of_le_of_lt h (Nat.lt_trans hm (by decide))
  exact (Nat.pow_lt_pow_iff_right (by omega)).1 h1

set_option maxHeartbeats 1000000 in
theorem dec_pos (m : Nat) (hm0 : 0 < m) (hm : m < 18446744073709551616) (w : World) :
    Calls Tryd.prog 8 #[.int .u64 m] w fun e w' => ∃ t g, e = .returned (.slice (some ⟨g, 0, none⟩) t t) ∧ 1 ≤ t ∧ t ≤ 20 ∧ m < 10 ^ t ∧ (t = 1 ∨ 10 ^ (t - 1) ≤ m) ∧ RowB w' g t (fun j => dgt m (t - 1 - j)) ∧ w.heap.size ≤ g ∧ g < w'.heap.size ∧ Below w.heap.size w w' := by
  have hne : ((m : Int) == 0) = false := beq_eq_false_iff_ne.2 (by omega)
  have R0 : Hid (RowB _ w.heap.size 20 (fun _ => 0)) := row20 w
  have HM : Hid (0 < m ∧ m < 18446744073709551616) := ⟨hm0, hm⟩
  go_enter Tryd.func8, Tryd.ntmps8
  go_wp2
  clear hm0 hm
  go_loopw [0, 4] (fun mv iv wr => ∃ t i x : Nat, i + t = 20 ∧ iv = .int .i64 i ∧ mv = .int .u64 x ∧ Hid (x = m / 10 ^ t ∧ (t = 0 ∨ 10 ^ (t - 1) ≤ m) ∧ ∃ f, RowB wr w.heap.size 20 f ∧ ∀ j, j < t → f (19 - j) = dgt m j) ∧ w.heap.size < wr.heap.size ∧ Below w.heap.size w wr) (fun _ iv _ => (intOf iv).toNat)
  case atStart => exact ⟨0, 20, m, rfl, rfl, rfl, ⟨by simp, .inl rfl, _, R0.out, fun j hj => by omega⟩, by simp, (Below.refl _ _).alloc (Nat.le_refl _) _⟩
  case round =>
    obtain ⟨t, i, x, hit, rfl, rfl, hI, hsz, hB⟩ := hrel
    by_cases hx : 0 < x
    · obtain ⟨hxd, ht, f, hf, hd⟩ := hI.out
      have h10 : 10 ^ t ≤ m := by
        rw [hxd] at hx
        exact (Nat.div_pos_iff.1 hx).2
      have ht20 := pow_lt20 HM.out.2 h10
      have hxm : x < 18446744073709551616 := by rw [hxd]; exact Nat.lt_of_le_of_lt (Nat.div_le_self _ _) HM.out.2
      obtain ⟨i, rfl⟩ : ∃ n, i = n + 1 := ⟨i - 1, by omega⟩
      have c1 := hf.1 i (by omega)
      have c2 := hf.2 i
      have hdg : (48 + (x : Int) % 10) = dgt m t := by unfold dgt; rw [hxd]; omega
      have N : Hid (x / 10 = m / 10 ^ (t + 1) ∧ (t + 1 = 0 ∨ 10 ^ (t + 1 - 1) ≤ m) ∧ ∃ f, RowB (wr.setCell ⟨w.heap.size, i, none⟩ (.int .u8 (48 + (x : Int) % 10))) w.heap.size 20 f ∧ ∀ j, j < t + 1 → f (19 - j) = dgt m j) := by
        refine ⟨by rw [hxd, Nat.pow_succ, Nat.div_div_eq_div_mul], .inr h10, _, rowB_set hf (by omega) _, fun j hj => ?_⟩
        by_cases e : j = t
        · subst e; rw [if_pos (by omega), hdg]
        · rw [if_neg (by omega)]; exact hd j (by omega)
      clear hI hxd ht hf hd h10 hdg
      go_wp2
      go_roundw
      case rel => exact ⟨t + 1, i, x / 10, by omega, rfl, by go_num, N, by simpa using hsz, bset hB (Nat.le_refl _)⟩
      case measure => simp [intOf]
    · have hmk : ∀ w, (Instr.makeSlice 22 (.int .i64 (20 - (i : Int))) (.int .i64 (20 - (i : Int)))).run Tryd.prog w = .ok (.slice (some ⟨w.heap.size, 0, none⟩) t t) (w.alloc (mkRow t)) := by
        intro w
        rw [show (20 - (i : Int)) = (t : Int) from by omega]
        exact run_mk t (by omega) w
      obtain ⟨hxd, ht, f, hf, hd⟩ := hI.out
      have ht0 : 0 < t := by
        rcases Nat.eq_zero_or_pos t with h | h
        · subst h
          have := HM.out.1
          simp at hxd; omega
        · exact h
      have hlt : m < 10 ^ t := by
        have : m / 10 ^ t = 0 := by omega
        rcases Nat.div_eq_zero_iff.1 this with h | h
        · have := Nat.pow_pos (n := t) (show 0 < 10 by omega); omega
        · exact h
      have hsl := run_sl20 w.heap.size i t hit ht0
      obtain ⟨w2, hcp, hrow, hbel⟩ := run_cp wr.heap.size w.heap.size i t (fun j => dgt m (t - 1 - j)) (wr.alloc (mkRow t))
        (by
          intro j hj
          have := hd (t - 1 - j) (by omega)
          rw [show 19 - (t - 1 - j) = i + j from by omega] at this
          rw [World.cell?_alloc_lt (a := ⟨w.heap.size, i + j, none⟩) _ _ hsz, hf.1 (i + j) (by omega), this]) (rowB_new wr t) 3
      have N : Hid (1 ≤ t ∧ t ≤ 20 ∧ m < 10 ^ t ∧ (t = 1 ∨ 10 ^ (t - 1) ≤ m) ∧ RowB w2 wr.heap.size t (fun j => dgt m (t - 1 - j)) ∧ w.heap.size ≤ wr.heap.size ∧ wr.heap.size < w2.heap.size ∧ Below w.heap.size w w2) := by
        have h1 := hbel w.heap.size w hB.size (hB.alloc hB.size _)
        exact ⟨ht0, by omega, hlt, by omega, hrow, hB.size, by rw [h1.2]; simp, h1.1⟩
      clear hI hxd ht hf hd hlt hrow hbel
      go_wp2
      go_ret
      exact ⟨t, wr.heap.size, rfl, N.out⟩
theorem dec_any (m : Nat) (hm : m < 18446744073709551616) (w : World) :
    Calls Tryd.prog 8 #[.int .u64 m] w fun e w' => ∃ t g, e = .returned (.slice (some ⟨g, 0, none⟩) t t) ∧ 1 ≤ t ∧ t ≤ 20 ∧ m < 10 ^ t ∧ (t = 1 ∨ 10 ^ (t - 1) ≤ m) ∧ RowB w' g t (fun j => dgt m (t - 1 - j)) ∧ w.heap.size ≤ g ∧ g < w'.heap.size ∧ Below w.heap.size w w' := by
  by_cases h0 : m = 0
  · subst h0
    refine (dec_zero w).mono fun e w' ⟨h1, h2⟩ => ?_
    subst h2
    refine ⟨1, w.heap.size, h1, by omega, by omega, by omega, .inl rfl, ⟨fun i hi => ?_, fun i => World.frozen?_alloc_new w _ _ i⟩, Nat.le_refl _, by simp, (Below.refl _ _).alloc (Nat.le_refl _) _⟩
    obtain rfl : i = 0 := by omega
    rw [World.cell?_alloc_new]; rfl
  · exact dec_pos m (by omega) hm w

theorem dgt_bd (m t : Nat) : 48 ≤ dgt m t ∧ dgt m t ≤ 57 := by unfold dgt; omega

theorem digit_step {m T k p : Nat} (hk : k < T) (hp : p = m / 10 ^ (T - k)) : 10 * p + m / 10 ^ (T - 1 - k) % 10 = m / 10 ^ (T - (k + 1)) := by
  have e : T - k = (T - 1 - k) + 1 := by omega
  rw [hp, e, Nat.pow_succ, ← Nat.div_div_eq_div_mul, show T - (k + 1) = T - 1 - k from by omega]
  omega
theorem rowB_alloc {w : World} {b n : Nat} {f : Nat → Int} (h : RowB w b n f) (hl : b < w.heap.size) (o : Obj) : RowB (w.alloc o) b n f :=
  rowB_below h ((Below.refl _ _).alloc (Nat.le_refl _) _) hl

/-- what is owned stays owned behind a call that writes nothing old -/
theorem own_below {w w' : World} {B n : Nat} {v : Value} {xs : List Value} (h : w.ownsRow B 5 1 v n xs) (hb : Below w.heap.size w w') : w'.ownsRow B 5 1 v n xs := by
  obtain ⟨h1, h2⟩ := h
  refine ⟨h1, ?_⟩
  rcases h2 with h2 | ⟨g, cap, cur, a, b, c, d⟩
  · exact .inl h2
  · refine .inr ⟨g, cap, cur, a, b, ?_, d⟩
    have hl : g < w.heap.size := by
      rcases Nat.lt_or_ge g w.heap.size with h | h
      · exact h
      · rw [Array.getElem?_eq_none (by omega)] at c; cases c
    rw [hb.block g hl]; exact c

theorem own_row {w : World} {B n : Nat} {v : Value} {L : List Int} (h : w.ownsRow B 5 1 v n (L.map (Value.int .u8))) (hn : L.length = n) (h0 : 0 < n) :
    ∃ g cap, v = .slice (some ⟨g, 0, none⟩) n cap ∧ B ≤ g ∧ g < w.heap.size ∧ n ≤ cap ∧ RowB w g n (fun i => L.getD i 0) := by
  have hh := h
  obtain ⟨h1, h2⟩ := h
  rcases h2 with ⟨_, h2⟩ | ⟨g, cap, cur, rfl, b, c, d, e, f, k⟩
  · omega
  · have hl : g < w.heap.size := by
      rcases Nat.lt_or_ge g w.heap.size with h | h
      · exact h
      · rw [Array.getElem?_eq_none (by omega)] at c; cases c
    refine ⟨g, cap, rfl, b, hl, d, fun i hi => ?_, fun i => hh.frozenAt i⟩
    rw [hh.cellAt i (by omega)]
    simp [List.getD, show i < L.length from by omega]

/-- the bytes of decimalU -/
def digs (m T : Nat) : List Int := (List.range T).map fun j => dgt m (T - 1 - j)
theorem digs_len (m T : Nat) : (digs m T).length = T := by simp [digs]
theorem digs_get {m T k : Nat} (h : k < T) : (digs m T)[k]? = some (dgt m (T - 1 - k)) := by simp [digs, h]

theorem new1 (w : World) (x : Int) (t : TypeId) (b : Nat) (hb : b = w.heap.size) : ∀ (j : Nat) (u : Value), [Value.int .u8 x][j]? = some u → (w.alloc (.cells #[.int .u8 x] t)).cell? ((⟨b, 0, none⟩ : Addr).add j) = some u := by
  intro j u h
  subst hb
  match j, h with
  | 0, h =>
    simp at h
    subst h
    rw [Addr.add_lit, World.cell?_alloc_new]; rfl
theorem one1 (x : Int) : ∀ u ∈ [Value.int .u8 x], u.oneCell' = true := by intro u h; simp at h; subst h; rfl
theorem rowB_news {w : World} {g n : Nat} {L : List Int} (h : RowB w g n (fun i => L.getD i 0)) (hn : L.length = n) : ∀ (j : Nat) (u : Value), (L.map (Value.int .u8))[j]? = some u → w.cell? ((⟨g, 0, none⟩ : Addr).add j) = some u := by
  intro j u hu
  simp only [List.getElem?_map, Option.map_eq_some_iff] at hu
  obtain ⟨k, hk, rfl⟩ := hu
  obtain ⟨hj, rfl⟩ := List.getElem?_eq_some_iff.1 hk
  rw [Addr.add_lit, Nat.zero_add, h.1 j (by omega)]
  simp [List.getD, hj]
theorem oneL (L : List Int) : ∀ u ∈ L.map (Value.int .u8), u.oneCell' = true := by intro u h; simp at h; obtain ⟨k, _, rfl⟩ := h; rfl
theorem digs_row {w : World} {g m T : Nat} (h : RowB w g T (fun j => dgt m (T - 1 - j))) : RowB w g T (fun i => (digs m T).getD i 0) :=
  ⟨fun i hi => by rw [h.1 i hi]; simp [List.getD, digs_get hi], h.2⟩

end Go.Proofs.Qxb6602709aDoor
