import Derived.Test.Qxb6602709aDoorShelf
import Derived.Test.Qxb6602709aDoorB1
import Derived.Lib.Walk
import Derived.Lib.ItoaWalk
import Derived.Lib.ItoaMem
import Derived.Lib.AppendIntMem
import Derived.Lib.Hide
import Derived.OwnWalk
import Derived.WalkKit
import Derived.BigCall
import Derived.BigGuard
import Derived.CellFam
namespace Go.Proofs.Qxb6602709aDoor
open Go.RowKit Go.Sort

theorem dgt_dg (u j : Nat) : ((Lib.dg u j).toNat : Int) = dgt u j := by
  have h : u / 10 ^ j % 10 < 10 := Nat.mod_lt _ (by omega)
  unfold Lib.dg dgt
  simp
  omega
theorem cells_digs (u : Nat) : Lib.byteCells (Lib.decDigits u) = (digs u (Lib.nDigits u)).map (Value.int .u8) := by
  unfold Lib.byteCells digs
  rw [Lib.decDigits_eq, List.map_map, List.map_map]
  refine List.map_congr_left fun t _ => ?_
  show Value.int .u8 ((Lib.dg u (Lib.nDigits u - 1 - t)).toNat : Int) = _
  rw [dgt_dg]; rfl

theorem grown_of {w w2 w3 : World} {row : Option Nat} (hb : Below w.heap.size w w2) (hg : w2.grownBy w3 row) : w.grownBy w3 row :=
  ⟨hg.os.trans hb.os, hg.tape.trans hb.tape, hg.output.trans hb.output, Nat.le_trans hb.size hg.size, fun k hk hne => (hg.block k (Nat.lt_of_lt_of_le hk hb.size) hne).trans (hb.block k hk)⟩

set_option maxHeartbeats 6400000 in
set_option maxRecDepth 100000 in
theorem appuint15 (B n u : Nat) (hu : 100 ≤ u) (hu64 : u < 18446744073709551616) (sv : Value) (xs : List Value) (w : World) (hown : w.ownsRow B 5 1 sv n xs) (hBw : B ≤ w.heap.size) (hlim : n + 20 ≤ 140737488355328) (htab : Lib.TabIs Tryd.prog w tabName .u64 Lib.pow10Tab) :
    Calls Tryd.prog 15 #[sv, .int .u64 u, .int .i64 10] w fun e w' => ∃ v', e = .returned v' ∧ w'.ownsRow B 5 1 v' (n + Lib.nDigits u) (xs ++ (digs u (Lib.nDigits u)).map (Value.int .u8)) ∧ w.grownBy w' sv.ownBlock := by
  obtain ⟨i0, hi, hz0, hz1, hz2⟩ := info_parts info5
  have hu1 : 1 ≤ u := by omega
  have hnd20 : Lib.nDigits u ≤ 20 := by have := Lib.numDigits_eq u hu1 hu64; split at this <;> omega
  have hal : Tryd.prog.arrayLen 40 = 24 := by kernel_rfl
  have hsl : ∀ W, (Instr.sliceAt 40 (.pointer (some ⟨w.heap.size, 0, none⟩)) none (some (.int .i64 (Lib.nDigits u : Int))) none).run Tryd.prog W = .ok (.slice (some ⟨w.heap.size, 0, none⟩) (Lib.nDigits u) 24) W := fun W => by
    have hu40 : Tryd.prog.underlying 40 = some (.array (Tryd.prog.arrayLen 40) (Tryd.prog.elem 40)) := by kernel_rfl
    rw [run_sliceAt_array_h W 40 ⟨w.heap.size, 0, none⟩ hu40 .i64 (Lib.nDigits u : Int) (by omega) (by rw [hal]; omega), hal, show (sizeOf (Tryd.prog.elem 40)).run Tryd.prog W = .ok 1 W by kernel_rfl]
    simp [Result.andThen_ok, slicedAt, Addr.add]
  have hH0 := Lib.holds_zero0 w 40 (Lib.nDigits u) (by omega)
  have hfmt := Tryd.internal_strconv_formatBase10 w.heap.size 0 24 u (Array.replicate (Lib.nDigits u) 0) (w.alloc (.cells Lib.zeros24 40)) hH0 (by rw [Array.size_replicate]; exact Lib.lt_pow_nDigits u) hu64 (by rw [Array.size_replicate]; omega)
  rw [Array.size_replicate] at hfmt
  have HH0 := Lib.hid hH0
  have iu : (100 : Int) ≤ (u : Int) := by omega
  clear hH0 hal
  go_enter Tryd.func15, Tryd.ntmps15
  go_wp2_with (go_at_call 17; refine (Tryd.internal_strconv_numDigits u hu1 hu64 _ (Lib.tabIs_alloc htab _)).mono ?_; rintro e w' ⟨rfl, hw⟩; subst hw)
  refine hfmt.mono ?_
  rintro e w' ⟨rfl, k, v', dk, rfl, hF⟩
  have hcells : ∀ j u', (Lib.byteCells (Lib.decDigits u))[j]? = some u' → ((putRow (fun (b : UInt8) => Value.int .u8 (b.toNat : Int)) (w.alloc (.cells Lib.zeros24 40)) w.heap.size 0 dk).drewN k).cell? ((⟨w.heap.size, 0, none⟩ : Addr).add j) = some u' := by
    intro j u' hj
    have hjl : j < (Lib.decDigits u).length := by
      have h5 := (List.getElem?_eq_some_iff.1 hj).1
      rwa [Lib.byteCells_length] at h5
    have e5 : (Lib.byteCells (Lib.decDigits u))[j]? = some (Value.int .u8 ((Lib.decDigits u)[j].toNat : Int)) := by simp [Lib.byteCells, hjl]
    rw [e5] at hj
    cases hj
    rw [Lib.row_is_numeral hF j hjl, Lib.add_plain, World.cell?_drewN]
    exact cell?_putRow (fun (b : UInt8) => Value.int .u8 (b.toNat : Int)) _ w.heap.size 0 _ dk HH0.out (by rw [hF.size, Array.size_replicate]) j (by rw [hF.size]; rw [Lib.decDigits_length] at hjl; exact hjl)
  obtain ⟨os, eo⟩ := Lib.fin_at w (.cells Lib.zeros24 40) dk k 0
  have hown2 : ((putRow (fun (b : UInt8) => Value.int .u8 (b.toNat : Int)) (w.alloc (.cells Lib.zeros24 40)) w.heap.size 0 dk).drewN k).ownsRow B 5 1 sv n xs := by rw [eo]; exact Lib.ownsRow_grow hown k os
  have hnx2 : Below w.heap.size w ((putRow (fun (b : UInt8) => Value.int .u8 (b.toNat : Int)) (w.alloc (.cells Lib.zeros24 40)) w.heap.size 0 dk).drewN k) := by rw [eo]; exact Lib.below_grow w.heap.size w (Nat.le_refl _) k os
  generalize (putRow (fun (b : UInt8) => Value.int .u8 (b.toNat : Int)) (w.alloc (.cells Lib.zeros24 40)) w.heap.size 0 dk).drewN k = W2 at hcells hown2 hnx2 ⊢
  rw [cells_digs] at hcells
  have hsz2 := hnx2.size
  clear eo HH0 hfmt
  go_wp2_with (at_builtin; go_loud (refine wpList_append_own _ rfl (.tmp 24) (.tmp 26) 22 rfl B 5 i0 (.int .u8 0) 1 1 Tryd.underlying22 hi hz0 hz1 hz2 rfl (by decide) _ n xs rfl hown2 ⟨w.heap.size, 0, none⟩ (Lib.nDigits u) 24 ((digs u (Lib.nDigits u)).map (Value.int .u8)) rfl (by simp [digs_len]) hcells (oneL _) (by unfold maxLen; omega) (by omega) (by omega) ?_); intro v2 w3 hown3 hgrow3 hnil3)
  go_ret
  exact ⟨v2, rfl, hown3, grown_of hnx2 hgrow3⟩
end Go.Proofs.Qxb6602709aDoor
