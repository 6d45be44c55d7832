import Derived.Test.Qxb6604021aModsRecPop
namespace Go.Proofs.Qxb6604021aMods.Recs
open Go.RowKit
open Grid (Grid)
open Heap (Rec cnt IsHeap upd swap Sift Popped)

theorem popLeft_back {Q H m c : Nat} {R R' : Nat → Rec} {w w1 : World} {o : Obj} (h : PopLeft Q H m c R R' (w.alloc o) w1) (hHl : H < w.heap.size) (hQl : Q < w.heap.size) (v0 v1 v2 : Value) :
    PopLeft Q H m c R R' w (((w1.setCell ⟨w.heap.size, 0, none⟩ v0).setCell ⟨w.heap.size, 1, none⟩ v1).setCell ⟨w.heap.size, 2, none⟩ v2) := by
  have nH : H ≠ w.heap.size := by omega
  have nQ : Q ≠ w.heap.size := by omega
  have hs := h.rest.size
  simp only [Go.Deep.nblk_alloc] at hs
  refine ⟨h.popped, ((h.grid.setOther (a := ⟨w.heap.size, 0, none⟩) nH _).setOther (a := ⟨w.heap.size, 1, none⟩) nH _).setOther (a := ⟨w.heap.size, 2, none⟩) nH _, ((h.ptr.setOther (a := ⟨w.heap.size, 0, none⟩) nQ _).setOther (a := ⟨w.heap.size, 1, none⟩) nQ _).setOther (a := ⟨w.heap.size, 2, none⟩) nQ _, ⟨fun b hb h1 h2 => ?_, ?_, h.rest.os, h.rest.tape, h.rest.output⟩⟩
  · have hb' : b ≠ w.heap.size := by omega
    rw [Below.heap_setCell _ ⟨w.heap.size, 2, none⟩ _ _ hb', Below.heap_setCell _ ⟨w.heap.size, 1, none⟩ _ _ hb', Below.heap_setCell _ ⟨w.heap.size, 0, none⟩ _ _ hb', h.rest.other b (by rw [Go.Deep.nblk_alloc]; omega) h1 h2, Below.heap_alloc _ _ _ hb]
  · simp [World.setCell]
    omega

set_option maxRecDepth 20000 in
set_option maxHeartbeats 1000000 in
theorem pop21 (Q H m c : Nat) (R : Nat → Rec) (w : World) (hm : m ≤ 4095) (hmc : m + 1 ≤ c) (hg : Grid w H 51 3 c (recF R)) (hQ : w.rowIs Q 47 1 (fun _ => .slice (some ⟨H, 0, none⟩) (m + 1) c)) (hQH : Q ≠ H) (hh : IsHeap R (m + 1)) :
    Calls Trym.prog 21 #[.pointer (some ⟨Q, 0, none⟩)] w fun e w' => PopRet Q H m c R w e w' := by
  have hHl := hg.lt
  have hQl := hQ.lt
  have hpop := pop31 Q H m c R (w.alloc (.cells #[.int .i64 0, .int .u32 0, .int .u32 0] 51)) hm hmc (hg.alloc _) (hQ.alloc _) hQH hh
  have hres := row3 (w := w) (R := zeroR) (t := 51)
  go_enter Trym.func21, Trym.ntmps21
  go_wp2_with fail
  refine hpop.mono ?_
  clear hpop
  rintro e w1 ⟨R', rfl, hL⟩
  have hrow : w1.rowIs w.heap.size 51 3 (recF zeroR 0) := World.rowIs.of_block hres (hL.rest.other w.heap.size (by simp) (by omega) (by omega))
  have r0 : w1.cell? ⟨w.heap.size, 0, none⟩ = some (.int .i64 0) := hrow.cell (i := 0) (by omega)
  have r1 : w1.cell? ⟨w.heap.size, 1, none⟩ = some (.int .u32 0) := hrow.cell (i := 1) (by omega)
  have r2 : w1.cell? ⟨w.heap.size, 2, none⟩ = some (.int .u32 0) := hrow.cell (i := 2) (by omega)
  have r3 := hrow.frozen
  clear hres hrow hg hQ
  go_wp2_with fail
  exact bodyPost_ret (v := .agg #[.int .i64 (R 0).1, .int .u32 (R 0).2.1, .int .u32 (R 0).2.2]) (by simp [results, Trym.results21, go_sem, r0, r1, r2]) rfl ⟨R', rfl, popLeft_back hL hHl hQl _ _ _⟩
end Go.Proofs.Qxb6604021aMods.Recs
