/- FnParseIntMatchesPlaceValueModel. -/
import Derived.Test.Qxb6603754aQ2
import Derived.Laws.Cover3
namespace Go.Proofs.Qxb6603754a
open Go.RowKit

theorem info5 : (Try.prog.info? 5).map (fun i => (i.zero, i.size, i.bytes)) = some (some (.int .u8 0), 1, 1) := by kernel_rfl
def mkRow (n : Nat) : Obj := .cells (madeCells #[.int .u8 0] n) 5
theorem run_mk (n : Nat) (h : n ≤ 1048576) (w : World) :
    (Instr.makeSlice 22 (.int .i64 (n : Int)) (.int .i64 (n : Int))).run Try.prog w = .ok (.slice (some ⟨w.heap.size, 0, none⟩) n n) (w.alloc (mkRow n)) := by
  obtain ⟨i, hi, hz, hs, hb⟩ := info_parts info5
  have := run_make (P := Try.prog) w 22 5 i (.int .u8 0) Try.underlying22 hi hz .i64 .i64 n n (by omega) (by omega) (by rw [hb]; omega) (by omega)
  rw [hs] at this
  simpa [mkRow, Value.cells] using this
theorem run_eqnil (a : Option Addr) (l c : Nat) (w : World) : (binOp .eql 22 (.slice a l c) (.slice none 0 0)).run Try.prog w = .ok (.bool a.isNone) w := by
  simp only [binOp]
  simp [run_equal_slice_nil w 22 5 a l c Try.underlying22]
attribute [local go_sem] run_eqnil
theorem rowB_new (w : World) (n : Nat) : RowB (w.alloc (mkRow n)) w.heap.size n (fun _ => 0) := by
  refine ⟨fun i hi => ?_, fun i => World.frozen?_alloc_new w _ _ i⟩
  have := World.cell?_alloc_new w (madeCells #[.int .u8 0] n) 5 i
  rw [mkRow, this]
  simp [madeCells, hi, Nat.mod_one]

set_option maxHeartbeats 400000 in
theorem bytes6_y (a0 : Option Addr) (len cap : Nat) (w : World) (h : len ≤ 1048576) :
    Calls Try.prog 6 #[.slice a0 len cap] w fun e w' => e = .returned (.bool true) ∧ ∃ m, w' = w.drewN m := by
  go_enter Try.func6, Try.ntmps6
  go_wp2
  go_ret
  exact ⟨rfl, 0, rfl⟩
set_option maxHeartbeats 400000 in
theorem bytes6_n (a0 : Option Addr) (len cap : Nat) (w : World) (h : 1048576 < len) :
    Calls Try.prog 6 #[.slice a0 len cap] w fun e w' => e = .returned (.bool false) ∧ ∃ m, w' = w.drewN m := by
  go_enter Try.func6, Try.ntmps6
  go_wp2
  go_ret
  exact ⟨rfl, 0, rfl⟩
set_option maxHeartbeats 400000 in
theorem clone7_nil (w : World) :
    Calls Try.prog 7 #[.slice none 0 0] w fun e w' => e = .returned (.slice none 0 0) ∧ ∃ m, w' = w.drewN m := by
  go_enter Try.func7, Try.ntmps7
  go_wp2
  go_ret
  exact ⟨rfl, 0, rfl⟩

set_option maxHeartbeats 1000000 in
theorem clone7_some (b off len cap : Nat) (z : Nat → Int) (w : World) (hl : len ≤ 1048576) (hb : 0 < len → b < w.heap.size) (hc : ∀ i, i < len → w.cell? ⟨b, off + i, none⟩ = some (.int .u8 (z i))) (sp : Option Nat) (hsp : 0 < len → sp = none) :
    Calls Try.prog 7 #[.slice (some ⟨b, off, sp⟩) len cap] w fun e w' => e = .returned (.slice (some ⟨w.heap.size, 0, none⟩) len len) ∧ RowB w' w.heap.size len z ∧ w.heap.size < w'.heap.size ∧ Below w.heap.size w w' := by
  have hmk := run_mk len hl
  have R0 : Hid (RowB (w.alloc (mkRow len)) w.heap.size len (fun _ => 0)) := rowB_new w len
  have HC : Hid (∀ i, i < len → w.cell? ⟨b, off + i, none⟩ = some (.int .u8 (z i))) := hc
  have HB : Hid (0 < len → b < w.heap.size) := hb
  have HS : Hid (0 < len → sp = none) := hsp
  clear hc hb hsp
  go_enter Try.func7, Try.ntmps7
  go_wp2
  clear hmk
  go_loopw [4] (fun i wr => ∃ k : Nat, k ≤ len ∧ i = .int .i64 k ∧ Hid (∃ g, RowB wr w.heap.size len g ∧ ∀ i, i < k → g i = z i) ∧ w.heap.size < wr.heap.size ∧ Below w.heap.size w wr) (fun i _ => len - (intOf i).toNat)
  case atStart => exact ⟨0, Nat.zero_le _, rfl, ⟨_, R0.out, fun i hi => by omega⟩, by simp, (Below.refl _ _).alloc (Nat.le_refl _) _⟩
  case round =>
    obtain ⟨k, hk, rfl, hR, hsz, hB⟩ := hrel
    by_cases hlt : k < len
    · obtain rfl : sp = none := HS.out (by omega)
      obtain ⟨g, hg, hz⟩ := hR.out
      have h1 : wr.cell? ⟨b, off + k, none⟩ = some (.int .u8 (z k)) := (hB.cell (p := ⟨b, off + k, none⟩) (HB.out (by omega))).trans (HC.out k hlt)
      have h2 := hg.1 k hlt
      have h3 := hg.2 k
      have N : Hid (∃ g', RowB (wr.setCell ⟨w.heap.size, k, none⟩ (.int .u8 (z k))) w.heap.size len g' ∧ ∀ i, i < k + 1 → g' i = z i) :=
        ⟨_, rowB_set hg hlt (z k), fun i hi => by
          by_cases e : i = k
          · simp [e]
          · simp only [e, if_false]; exact hz i (by omega)⟩
      clear hg hz hR
      go_wp2
      go_roundw
      case rel => exact ⟨k + 1, by omega, by go_num, N, by simpa using hsz, bset hB (Nat.le_refl _)⟩
      case measure => simp [intOf]; omega
    · obtain ⟨g, hg, hz⟩ := hR.out
      have N : Hid (RowB wr w.heap.size len z) := ⟨fun i hi => by rw [hg.1 i hi, hz i (by omega)], hg.2⟩
      clear hg hz hR
      go_wp2
      go_ret
      exact ⟨rfl, N.out, hsz, hB⟩

set_option maxHeartbeats 1000000 in
theorem law_some (b off len cap : Nat) (z : Nat → Int) (w : World) (hl : len ≤ 1048576) (hb : 0 < len → b < w.heap.size) (hc : ∀ i, i < len → w.cell? ⟨b, off + i, none⟩ = some (.int .u8 (z i))) (sp : Option Nat) (hsp : 0 < len → sp = none) (hz : ∀ i, 0 ≤ z i ∧ z i ≤ 255) :
    Calls Try.prog 3 #[.slice (some ⟨b, off, sp⟩) len cap] w fun e w' => e = .returned (.bool true) ∧ Below w.heap.size w w' := by
  have HC : Hid ((∀ i, i < len → w.cell? ⟨b, off + i, none⟩ = some (.int .u8 (z i))) ∧ (0 < len → b < w.heap.size) ∧ (0 < len → sp = none) ∧ ∀ i, 0 ≤ z i ∧ z i ≤ 255) := ⟨hc, hb, hsp, hz⟩
  clear hc hb hsp hz
  go_enter Try.func3, Try.ntmps3
  go_wp2_with (go_at_call 6; refine (bytes6_y _ _ _ _ (by omega)).mono ?_; rintro e w' ⟨rfl, m, rfl⟩)
  refine (clone7_some b off len cap z _ hl (by exact HC.out.2.1) (by exact HC.out.1) sp HC.out.2.2.1).mono ?_
  rintro e w1 ⟨rfl, hrow, hsz, hB⟩
  have hB1 : Below w.heap.size w w1 := (below_drewN (Below.refl _ _) _).trans hB
  have HR : Hid (RowB w1 w.heap.size len z) := hrow
  clear hrow hB
  go_wp2_with fail
  refine (zz_any w.heap.size len len z w1 HR.out.1 (Nat.le_refl _) (fun i _ => HC.out.2.2.2 i)).mono ?_
  rintro e w2 ⟨r, ok, rfl, ha, q, rfl⟩
  go_wp2_with fail
  refine (mod_any w.heap.size len len z _ (by exact HR.out.1) hl).mono ?_
  rintro e w3 ⟨r', ok', rfl, ha', q', rfl⟩
  obtain ⟨rfl, rfl⟩ := ha.fn ha'
  cases ok <;> (go_wp2_with fail; go_ret; exact ⟨rfl, below_drewN hB1 _⟩)

set_option maxHeartbeats 1000000 in
theorem law_nil (w : World) :
    Calls Try.prog 3 #[.slice none 0 0] w fun e w' => e = .returned (.bool true) ∧ Below w.heap.size w w' := by
  go_enter Try.func3, Try.ntmps3
  go_wp2_with (first | (go_at_call 6; refine (bytes6_y _ _ _ _ (by omega)).mono ?_; rintro e w' ⟨rfl, m, rfl⟩) | (go_at_call 7; refine (clone7_nil _).mono ?_; rintro e w' ⟨rfl, m, rfl⟩) | (go_at_call 8; refine (zz_nil _).mono ?_; rintro e w' ⟨rfl, m, rfl⟩) | (go_at_call 9; refine (mod_empty none 0 _).mono ?_; rintro e w' ⟨rfl, m, rfl⟩))
  go_ret
  exact ⟨rfl, by repeat (first | exact Below.refl _ _ | apply below_drewN)⟩
set_option maxHeartbeats 400000 in
theorem law_e1 (a0 : Option Addr) (len cap : Nat) (w : World) (h : 1048576 < len) :
    Calls Try.prog 3 #[.slice a0 len cap] w fun e w' => e = .returned (.bool true) ∧ Below w.heap.size w w' := by
  go_enter Try.func3, Try.ntmps3
  go_wp2_with (go_at_call 6; refine (bytes6_n _ _ _ _ (by omega)).mono ?_; rintro e w' ⟨rfl, m, rfl⟩)
  go_ret
  exact ⟨rfl, below_drewN (Below.refl _ _) _⟩

def InRow (w : World) (a : Option Addr) (len cap : Nat) (z : Nat → Int) : Prop :=
  (a = none ∧ len = 0 ∧ cap = 0) ∨ ∃ b off sp, a = some ⟨b, off, sp⟩ ∧ (0 < len → b < w.heap.size) ∧ (∀ i, i < len → w.cell? ⟨b, off + i, none⟩ = some (.int .u8 (z i))) ∧ (0 < len → sp = none)
theorem law_any (a : Option Addr) (len cap : Nat) (z : Nat → Int) (w : World) (hrow : InRow w a len cap z) (hz : ∀ i, 0 ≤ z i ∧ z i ≤ 255) :
    Calls Try.prog 3 #[.slice a len cap] w fun e w' => e = .returned (.bool true) ∧ Below w.heap.size w w' := by
  by_cases h1 : 1048576 < len
  · exact law_e1 a len cap w h1
  rcases hrow with ⟨rfl, rfl, rfl⟩ | ⟨b, off, sp, rfl, r1, r2, r3⟩
  · exact law_nil w
  · exact law_some b off len cap z w (by omega) r1 r2 sp r3 hz
end Go.Proofs.Qxb6603754a
