/- zzBytes_.. and zzCloneInt64s. -/
import Derived.Test.Qxb6602616aW5
import Derived.LoopTactic
import Derived.Laws.Cover3
namespace Go.Proofs.Qxb6602616a
open Go.RowKit Fl

theorem info2 : (Try.prog.info? 2).map (fun i => (i.zero, i.size, i.bytes)) = some (some (.int .i64 0), 1, 8) := by kernel_rfl

/-- the cells of 'make([]int64, n)' -/
def mkRow (n : Nat) : Obj := .cells (madeCells #[.int .i64 0] n) 2
theorem run_mk (n : Nat) (h : n ≤ 1048576) (w : World) :
    (Instr.makeSlice 27 (.int .i64 (n : Int)) (.int .i64 (n : Int))).run Try.prog w = .ok (.slice (some ⟨w.heap.size, 0, none⟩) n n) (w.alloc (mkRow n)) := by
  obtain ⟨i, hi, hz, hs, hb⟩ := info_parts info2
  have := run_make (P := Try.prog) w 27 2 i (.int .i64 0) Try.underlying27 hi hz .i64 .i64 n n (by omega) (by omega) (by rw [hb]; omega) (by omega)
  rw [hs] at this
  simpa [mkRow, Value.cells] using this
theorem run_eqnil (a : Option Addr) (l c : Nat) (w : World) : (binOp .eql 27 (.slice a l c) (.slice none 0 0)).run Try.prog w = .ok (.bool a.isNone) w := by
  simp only [binOp]
  simp [run_equal_slice_nil w 27 2 a l c Try.underlying27]
attribute [local go_sem] run_eqnil

/-- n cells of block b, the numbers f -/
def RowI (w : World) (b n : Nat) (f : Nat → Int) : Prop := (∀ i, i < n → w.cell? ⟨b, i, none⟩ = some (.int .i64 (f i))) ∧ ∀ i, w.frozen? ⟨b, i, none⟩ = false

theorem rowI_new (w : World) (n : Nat) : RowI (w.alloc (mkRow n)) w.heap.size n (fun _ => 0) := by
  refine ⟨fun i hi => ?_, fun i => World.frozen?_alloc_new w _ _ i⟩
  have := World.cell?_alloc_new w (madeCells #[.int .i64 0] n) 2 i
  rw [mkRow, this]
  simp [madeCells, hi, Nat.mod_one]

theorem rowI_set {w : World} {b n : Nat} {f : Nat → Int} (h : RowI w b n f) {k : Nat} (hk : k < n) (x : Int) : RowI (w.setCell ⟨b, k, none⟩ (.int .i64 x)) b n (fun i => if i = k then x else f i) := by
  refine ⟨fun i hi => ?_, fun i => by rw [World.frozen?_setCell]; exact h.2 i⟩
  by_cases e : i = k
  · subst e; simp; exact cset_same (h.1 i hi)
  · rw [cset_other (fun x => e x.symm), h.1 i hi]; simp [e]

theorem rowI_below {w w' : World} {b n : Nat} {f : Nat → Int} (h : RowI w b n f) (hb : Below w.heap.size w w') (hl : b < w.heap.size) : RowI w' b n f :=
  ⟨fun i hi => by rw [hb.cell (p := ⟨b, i, none⟩) hl]; exact h.1 i hi, fun i => by rw [hb.frozen (p := ⟨b, i, none⟩) hl]; exact h.2 i⟩

set_option maxHeartbeats 400000 in
theorem bytes10_yes (c : Int) (s : Bool) (rv rw : Nat) (q : Int) (ex : Nat) (a0 : Option Addr) (len cap : Nat) (w : World) (h : len ≤ 1048576) :
    Calls Try.prog 10 #[.int .i64 c, .bool s, .float .f64 rv, .float .f64 rw, .int .i64 q, .float .f64 ex, .slice a0 len cap] w fun e w' => e = .returned (.bool true) ∧ w' = w := by
  go_enter Try.func10, Try.ntmps10
  go_wp2
  go_ret
  exact ⟨rfl, rfl⟩
set_option maxHeartbeats 400000 in
theorem bytes10_no (c : Int) (s : Bool) (rv rw : Nat) (q : Int) (ex : Nat) (a0 : Option Addr) (len cap : Nat) (w : World) (h : 1048576 < len) :
    Calls Try.prog 10 #[.int .i64 c, .bool s, .float .f64 rv, .float .f64 rw, .int .i64 q, .float .f64 ex, .slice a0 len cap] w fun e w' => e = .returned (.bool false) ∧ w' = w := by
  go_enter Try.func10, Try.ntmps10
  go_wp2
  go_ret
  exact ⟨rfl, rfl⟩

set_option maxHeartbeats 400000 in
theorem clone11_nil (w : World) :
    Calls Try.prog 11 #[.slice none 0 0] w fun e w' => e = .returned (.slice none 0 0) ∧ w' = w := by
  go_enter Try.func11, Try.ntmps11
  go_wp2
  go_ret
  exact ⟨rfl, rfl⟩

set_option maxHeartbeats 1000000 in
theorem clone11_some (b off len cap : Nat) (z : Nat → Int) (w : World) (hl : len ≤ 1048576) (hb : 0 < len → b < w.heap.size) (hc : ∀ i, i < len → w.cell? ⟨b, off + i, none⟩ = some (.int .i64 (z i))) (sp : Option Nat) (hsp : 0 < len → sp = none) :
    Calls Try.prog 11 #[.slice (some ⟨b, off, sp⟩) len cap] w fun e w' => e = .returned (.slice (some ⟨w.heap.size, 0, none⟩) len len) ∧ RowI w' w.heap.size len z ∧ w.heap.size < w'.heap.size ∧ Below w.heap.size w w' := by
  have hmk := run_mk len hl
  have R0 : Hid (RowI (w.alloc (mkRow len)) w.heap.size len (fun _ => 0)) := rowI_new w len
  have HC : Hid (∀ i, i < len → w.cell? ⟨b, off + i, none⟩ = some (.int .i64 (z i))) := hc
  have HB : Hid (0 < len → b < w.heap.size) := hb
  have HS : Hid (0 < len → sp = none) := hsp
  clear hc hb hsp
  go_enter Try.func11, Try.ntmps11
  go_wp2
  clear hmk
  go_loopw [4] (fun i wr => ∃ k : Nat, k ≤ len ∧ i = .int .i64 k ∧ Hid (∃ g, RowI wr w.heap.size len g ∧ ∀ i, i < k → g i = z i) ∧ w.heap.size < wr.heap.size ∧ Below w.heap.size w wr) (fun i _ => len - (intOf i).toNat)
  case atStart => exact ⟨0, Nat.zero_le _, rfl, ⟨_, R0.out, fun i hi => by omega⟩, by simp, (Below.refl _ _).alloc (Nat.le_refl _) _⟩
  case round =>
    obtain ⟨k, hk, rfl, hR, hsz, hB⟩ := hrel
    by_cases hlt : k < len
    · obtain rfl : sp = none := HS.out (by omega)
      obtain ⟨g, hg, hz⟩ := hR.out
      have h1 : wr.cell? ⟨b, off + k, none⟩ = some (.int .i64 (z k)) := (hB.cell (p := ⟨b, off + k, none⟩) (HB.out (by omega))).trans (HC.out k hlt)
      have h2 := hg.1 k hlt
      have h3 := hg.2 k
      have N : Hid (∃ g', RowI (wr.setCell ⟨w.heap.size, k, none⟩ (.int .i64 (z k))) w.heap.size len g' ∧ ∀ i, i < k + 1 → g' i = z i) :=
        ⟨_, rowI_set hg hlt (z k), fun i hi => by
          by_cases e : i = k
          · simp [e]
          · simp only [e, if_false]; exact hz i (by omega)⟩
      clear hg hz hR
      go_wp2
      go_roundw
      case rel => exact ⟨k + 1, by omega, by go_num, N, by simpa using hsz, bset hB⟩
      case measure => simp [intOf]; omega
    · obtain ⟨g, hg, hz⟩ := hR.out
      have N : Hid (RowI wr w.heap.size len z) := ⟨fun i hi => by rw [hg.1 i hi, hz i (by omega)], hg.2⟩
      clear hg hz hR
      go_wp2
      go_ret
      exact ⟨rfl, N.out, hsz, hB⟩
end Go.Proofs.Qxb6602616a
