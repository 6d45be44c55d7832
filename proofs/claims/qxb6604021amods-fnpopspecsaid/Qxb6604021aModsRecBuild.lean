import Derived.Test.Qxb6604021aModsRecCalls
import Derived.Deep.RegionWith
namespace Go.Proofs.Qxb6604021aMods.Recs
open Go.RowKit
open Grid (Grid)
open Heap (Rec cnt IsHeap upd swap)

set_option maxRecDepth 20000 in
set_option maxHeartbeats 2000000 in
theorem build20 (x : Addr) (len cap : Nat) (R : Nat → Rec) (w : World) (hl : len ≤ 4096) (hc : Recs w x len R) :
    Calls Trym.prog 20 #[.slice (some x) len cap] w fun e w' => e = .returned (.slice (some ⟨w.heap.size, 0, none⟩) len len) ∧ Grid w' w.heap.size 51 3 len (recF R) ∧ Below w.heap.size w w' := by
  have hmk := Grid.run_make_grid (P := Trym.prog) 47 51 (.agg #[.int .i64 0, .int .u32 0, .int .u32 0]) 3 16 Trym.underlying47 info51 .i64 .i64 len (by omega) (by omega)
  have h0 := filling_start w len 51 R
  go_enter Trym.func20, Trym.ntmps20
  go_wp2
  clear hmk
  go_loopw [4] (fun i wr => ∃ k : Nat, k ≤ len ∧ i = .int .i64 k ∧ Filling w w.heap.size 51 len R k wr) (fun i _ => len - (intOf i).toNat)
  case atStart => exact ⟨0, Nat.zero_le _, rfl, h0⟩
  case round =>
    clear h0
    obtain ⟨k, hk, rfl, hF⟩ := hrel
    by_cases hlt : k < len
    · have hR := recs_below hc hF.below
      have hc0 := hR.c0 k hlt
      have hc1 := hR.c1 k hlt
      have hc2 := hR.c2 k hlt
      have hrec := record30 (R k).1 (R k).2.1 (R k).2.2 wr.drew
      have hk0 : (0 : Int) ≤ (k : Int) := by omega
      have hk1 : (k : Int) < (len : Int) := by omega
      have hF1 : ∀ o, Filling w w.heap.size 51 len R k (wr.alloc o) := fun o => hF.alloc o
      have hd0 := fun o => (hF1 o).grid.cell0 hlt (by omega)
      have hd1 := fun o => (hF1 o).grid.cell (r := 1) hlt (by omega)
      have hd2 := fun o => (hF1 o).grid.cell (r := 2) hlt (by omega)
      have hf := fun o q => (hF1 o).grid.frozen q
      have HS : Hid (∀ o, Filling w w.heap.size 51 len R (k + 1) _) := fun o => filling_step (hF1 o)
      clear hR hF hc hF1
      go_wp2_with fail
      go_region_with (go_at_call 30; refine hrec.mono ?_; rintro e w1 ⟨rfl, o, rfl⟩)
      all_goals
        go_wp2_with fail
        go_roundw
        case rel => exact ⟨k + 1, by omega, by go_num, Filling.kept (HS.out _) ⟨rfl, rfl, rfl, rfl⟩⟩
        case measure => simp [intOf]; omega
    · obtain rfl : k = len := by omega
      have HG := upto_full hF.grid
      have hb := hF.below
      clear hF hc
      go_wp2
      go_ret
      exact ⟨rfl, HG, hb⟩

set_option maxHeartbeats 1000000 in
theorem build20_nil (w : World) : Calls Trym.prog 20 #[.slice none 0 0] w fun e w' => e = .returned (.slice (some ⟨w.heap.size, 0, none⟩) 0 0) ∧ Grid w' w.heap.size 51 3 0 (recF zeroR) ∧ Below w.heap.size w w' := by
  have hmk := Grid.run_make_grid (P := Trym.prog) 47 51 (.agg #[.int .i64 0, .int .u32 0, .int .u32 0]) 3 16 Trym.underlying47 info51 .i64 .i64 0 (by omega) (by omega)
  simp only [Int.natCast_zero] at hmk
  have h0 := made3 w 0 51
  go_enter Trym.func20, Trym.ntmps20
  go_wp2
  refine wp_loop_rounds 1 ?_
  rw [rounds_succ]
  go_wp2
  go_ret
  exact ⟨rfl, h0, (Below.refl _ _).alloc (Nat.le_refl _) _⟩

/-- A record's fields, boxed and read. -/
theorem fields (v : Rec) (w : World) : Calls Trym.prog 22 #[.agg #[.int .i64 v.1, .int .u32 v.2.1, .int .u32 v.2.2]] w fun e w' => e = .returned (.tuple #[.int .i64 v.1, .int .u32 v.2.1, .int .u32 v.2.2]) ∧ Below w.heap.size w w' ∧ w.heap.size < w'.heap.size :=
  (fields22 v.1 v.2.1 v.2.2 w).mono fun e w' ⟨h1, o, h2⟩ => ⟨h1, ((Below.refl _ _).alloc (Nat.le_refl _) o).trans (h2.below _), by rw [h2.heap]; simp⟩

set_option maxRecDepth 20000 in
set_option maxHeartbeats 2000000 in
theorem plain23 (H n c : Nat) (R : Nat → Rec) (w : World) (hl : n ≤ 4096) (hn : n ≤ c) (hg : Grid w H 51 3 c (recF R)) :
    Calls Trym.prog 23 #[.slice (some ⟨H, 0, none⟩) n c] w fun e w' => e = .returned (.slice (some ⟨w.heap.size, 0, none⟩) n n) ∧ Grid w' w.heap.size 57 3 n (recF R) ∧ Below w.heap.size w w' := by
  have hmk := Grid.run_make_grid (P := Trym.prog) 43 57 (.agg #[.int .i64 0, .int .u32 0, .int .u32 0]) 3 16 Trym.underlying43 info57 .i64 .i64 n (by omega) (by omega)
  have h0 := filling_start w n 57 R
  have hHl := hg.lt
  go_enter Trym.func23, Trym.ntmps23
  go_wp2
  clear hmk
  go_loopw [4] (fun i wr => ∃ k : Nat, k ≤ n ∧ i = .int .i64 k ∧ Filling w w.heap.size 57 n R k wr) (fun i _ => n - (intOf i).toNat)
  case atStart => exact ⟨0, Nat.zero_le _, rfl, h0⟩
  case round =>
    clear h0
    obtain ⟨k, hk, rfl, hF⟩ := hrel
    by_cases hlt : k < n
    · have hG := hg.below hF.below hHl
      have hc0 : wr.cell? ⟨H, k * 3, none⟩ = some (.int .i64 (R k).1) := hG.cell0 (by omega) (by omega)
      have hc1 : wr.cell? ⟨H, k * 3 + 1, none⟩ = some (.int .u32 (R k).2.1) := hG.cell (r := 1) (by omega) (by omega)
      have hc2 : wr.cell? ⟨H, k * 3 + 2, none⟩ = some (.int .u32 (R k).2.2) := hG.cell (r := 2) (by omega) (by omega)
      have hfl := fields (R k) wr
      have hk0 : (0 : Int) ≤ (k : Int) := by omega
      have hk1 : (k : Int) < (n : Int) := by omega
      have HF : Hid (Filling w w.heap.size 57 n R k wr) := hF
      clear hG hF
      go_wp2_with fail
      refine hfl.mono ?_
      rintro e w1 ⟨rfl, hb1, hs1⟩
      have hF1 : Filling w w.heap.size 57 n R k w1 := ⟨HF.out.grid.below hb1 HF.out.size, by have := HF.out.size; omega, HF.out.below.trans (hb1.mono (by have := HF.out.size; omega))⟩
      have hd0 := hF1.grid.cell0 hlt (by omega)
      have hd1 := hF1.grid.cell (r := 1) hlt (by omega)
      have hd2 := hF1.grid.cell (r := 2) hlt (by omega)
      have hf := hF1.grid.frozen
      have HS := filling_step hF1
      clear hF1 hb1 hs1 hfl
      go_wp2_with fail
      go_roundw
      case rel => exact ⟨k + 1, by omega, by go_num, HS⟩
      case measure => simp [intOf]; omega
    · obtain rfl : k = n := by omega
      have HG := upto_full hF.grid
      have hb := hF.below
      clear hF hg
      go_wp2
      go_ret
      exact ⟨rfl, HG, hb⟩
end Go.Proofs.Qxb6604021aMods.Recs
