/- the padded decimal: plain laws. -/
import Derived.Test.Qxb6603754aP2
namespace Go.Proofs.Qxb6603754a
open Go.RowKit

/-- the digit of m at place t, as a byte -/
def dgt (m t : Nat) : Int := 48 + ((m / 10 ^ t % 10 : Nat) : Int)
theorem dgt_bd (m t : Nat) : 48 ≤ dgt m t ∧ dgt m t ≤ 57 := by unfold dgt; omega
theorem digit_step {m T k p : Nat} (hk : k < T) (hp : p = m / 10 ^ (T - k)) : 10 * p + m / 10 ^ (T - 1 - k) % 10 = m / 10 ^ (T - (k + 1)) := by
  have e : T - k = (T - 1 - k) + 1 := by omega
  rw [hp, e, Nat.pow_succ, ← Nat.div_div_eq_div_mul, show T - (k + 1) = T - 1 - k from by omega]
  omega

/-- s signs, P zeros, and t of the T digits of m -/
structure Txt (f : Nat → Int) (s P m T t : Nat) : Prop where
  sg : s = 1 → f 0 = 45
  ze : ∀ j, j < P → f (s + j) = 48
  di : ∀ j, j < t → f (s + P + j) = dgt m (T - 1 - j)

theorem Txt.isD {f : Nat → Int} {s P m T t : Nat} (h : Txt f s P m T t) : IsD f s (P + t) := fun i hi => by
  by_cases h1 : i < P
  · rw [h.ze i h1]; omega
  · have := h.di (i - P) (by omega)
    rw [show s + P + (i - P) = s + i from by omega] at this
    rw [this]; exact dgt_bd _ _
theorem Txt.off {f : Nat → Int} {s P m T t : Nat} (h : Txt f s P m T t) (hs : s = 0 ∨ s = 1) (ht : 1 ≤ t) : off f (s + P + t) = s := by
  unfold Qxb6603754a.off
  rcases hs with rfl | rfl
  · have h1 := h.isD 0 (by omega)
    simp only [Nat.zero_add] at h1
    rw [if_neg (by omega)]
  · rw [if_pos ⟨by omega, h.sg rfl⟩]
theorem vl_zero {f : Nat → Int} {s P : Nat} (h : ∀ j, j < P → f (s + j) = 48) : ∀ j, j ≤ P → vl f s j = 0
  | 0, _ => rfl
  | j + 1, hj => by rw [vl, vl_zero h j (by omega), h j (by omega)]; rfl
theorem Txt.vl {f : Nat → Int} {s P m T : Nat} (h : Txt f s P m T T) (hm : m < 10 ^ T) : ∀ t, t ≤ T → vl f s (P + t) = ((m / 10 ^ (T - t) : Nat) : Int)
  | 0, _ => by rw [Nat.add_zero, vl_zero h.ze P (Nat.le_refl _), Nat.sub_zero, Nat.div_eq_of_lt hm]; rfl
  | t + 1, ht => by
    have ih := Txt.vl h hm t (by omega)
    have hd := h.di t (by omega)
    have hs := digit_step (m := m) (T := T) (k := t) (by omega) rfl
    rw [← Nat.add_assoc, Qxb6603754a.vl, ih, ← Nat.add_assoc, hd, ← hs]
    unfold dgt
    omega
theorem Txt.ans {f : Nat → Int} {s P m T : Nat} (h : Txt f s P m T T) (hs : s = 0 ∨ s = 1) (hT : 1 ≤ T) (hm : m < 10 ^ T) : ansv f (s + P + T) = if s = 1 then -(m : Int) else (m : Int) := by
  have hv := h.vl hm T (Nat.le_refl _)
  rw [Nat.sub_self, Nat.pow_zero, Nat.div_one] at hv
  unfold ansv
  rw [h.off hs hT, show s + P + T - s = P + T from by omega, hv]
theorem Txt.good {f : Nat → Int} {s P m T : Nat} (h : Txt f s P m T T) (hs : s = 0 ∨ s = 1) (hT : 1 ≤ T) : Good f (s + P + T) ↔ P + T ≤ 9 := by
  unfold Good
  rw [h.off hs hT, show s + P + T - s = P + T from by omega]
  exact ⟨fun h => h.2.1, fun h1 => ⟨by omega, h1, h.isD⟩⟩
theorem Txt.byte {f : Nat → Int} {s P m T t : Nat} (h : Txt f s P m T t) (hs : s = 0 ∨ s = 1) (i : Nat) (hi : i < s + P + t) : 0 ≤ f i ∧ f i ≤ 255 := by
  by_cases h1 : i < s
  · obtain rfl : s = 1 := by omega
    obtain rfl : i = 0 := by omega
    rw [h.sg rfl]; omega
  · have := h.isD (i - s) (by omega)
    rw [show s + (i - s) = i from by omega] at this
    omega
theorem Txt.out {f : Nat → Int} {s P m T : Nat} (h : Txt f s P m T T) (hs : s = 0 ∨ s = 1) (hT : 1 ≤ T) (hm : m < 10 ^ T) {r : Int} {ok : Bool} (ha : Ans (Good f (s + P + T)) (ansv f (s + P + T)) r ok) :
    (P + T ≤ 9 ∧ ok = true ∧ r = if s = 1 then -(m : Int) else (m : Int)) ∨ (9 < P + T ∧ ok = false ∧ r = 0) := by
  rcases ha with ⟨a, b, c⟩ | ⟨a, b, c⟩
  · exact .inl ⟨(h.good hs hT).1 a, b, by rw [c, h.ans hs hT hm]⟩
  · refine .inr ⟨?_, b, c⟩
    rw [h.good hs hT] at a
    omega

theorem row32 (w : World) : RowB (w.alloc (.cells #[.int .u8 0, .int .u8 0, .int .u8 0, .int .u8 0, .int .u8 0, .int .u8 0, .int .u8 0, .int .u8 0, .int .u8 0, .int .u8 0, .int .u8 0, .int .u8 0, .int .u8 0, .int .u8 0, .int .u8 0, .int .u8 0, .int .u8 0, .int .u8 0, .int .u8 0, .int .u8 0, .int .u8 0, .int .u8 0, .int .u8 0, .int .u8 0, .int .u8 0, .int .u8 0, .int .u8 0, .int .u8 0, .int .u8 0, .int .u8 0, .int .u8 0, .int .u8 0] 27)) w.heap.size 32 (fun _ => 0) := by
  refine ⟨fun i hi => ?_, fun i => World.frozen?_alloc_new w _ _ i⟩
  rw [World.cell?_alloc_new]
  have : i = 0 ∨ i = 1 ∨ i = 2 ∨ i = 3 ∨ i = 4 ∨ i = 5 ∨ i = 6 ∨ i = 7 ∨ i = 8 ∨ i = 9 ∨ i = 10 ∨ i = 11 ∨ i = 12 ∨ i = 13 ∨ i = 14 ∨ i = 15 ∨ i = 16 ∨ i = 17 ∨ i = 18 ∨ i = 19 ∨ i = 20 ∨ i = 21 ∨ i = 22 ∨ i = 23 ∨ i = 24 ∨ i = 25 ∨ i = 26 ∨ i = 27 ∨ i = 28 ∨ i = 29 ∨ i = 30 ∨ i = 31 := by omega
  rcases this with rfl | rfl | rfl | rfl | rfl | rfl | rfl | rfl | rfl | rfl | rfl | rfl | rfl | rfl | rfl | rfl | rfl | rfl | rfl | rfl | rfl | rfl | rfl | rfl | rfl | rfl | rfl | rfl | rfl | rfl | rfl | rfl <;> rfl
theorem row10 (w : World) : RowB (w.alloc (.cells #[.int .u8 0, .int .u8 0, .int .u8 0, .int .u8 0, .int .u8 0, .int .u8 0, .int .u8 0, .int .u8 0, .int .u8 0, .int .u8 0] 28)) w.heap.size 10 (fun _ => 0) := by
  refine ⟨fun i hi => ?_, fun i => World.frozen?_alloc_new w _ _ i⟩
  rw [World.cell?_alloc_new]
  have : i = 0 ∨ i = 1 ∨ i = 2 ∨ i = 3 ∨ i = 4 ∨ i = 5 ∨ i = 6 ∨ i = 7 ∨ i = 8 ∨ i = 9 := by omega
  rcases this with rfl | rfl | rfl | rfl | rfl | rfl | rfl | rfl | rfl | rfl <;> rfl

theorem run_sl32 (b k : Nat) (h : k ≤ 32) (w : World) :
    (Instr.sliceAt 27 (.pointer (some ⟨b, 0, none⟩)) none (some (.int .i64 (k : Int))) none).run Try.prog w = .ok (.slice (some ⟨b, 0, none⟩) k 32) w := by
  have hu : Try.prog.underlying 27 = some (.array (Try.prog.arrayLen 27) (Try.prog.elem 27)) := by kernel_rfl
  have hl : Try.prog.arrayLen 27 = 32 := by kernel_rfl
  have hz : (sizeOf (Try.prog.elem 27)).run Try.prog w = .ok 1 w := by kernel_rfl
  rw [run_sliceAt_array_h w 27 ⟨b, 0, none⟩ hu .i64 (k : Int) (by omega) (by rw [hl]; omega), hz, hl]
  simp [Result.andThen_ok, slicedAt, Int.toNat_natCast, Addr.add]
theorem rowB_ne {w : World} {b c i n : Nat} {f : Nat → Int} {v : Value} (h : RowB w b n f) (hn : c ≠ b) : RowB (w.setCell ⟨c, i, none⟩ v) b n f := by
  refine ⟨fun j hj => ?_, fun j => by rw [World.frozen?_setCell]; exact h.2 j⟩
  rw [← h.1 j hj]
  have : (⟨c, i, none⟩ : Addr) ≠ ⟨b, j, none⟩ := by intro e; cases e; exact hn rfl
  go_simp
end Go.Proofs.Qxb6603754a
