import Derived.Test.Qxb6604021aModsRepCalls
namespace Go.Proofs.Qxb6604021aMods.Reps
open Go.RowKit
open Grid (Grid)

set_option maxRecDepth 20000 in
set_option maxHeartbeats 2000000 in
theorem build11 (B len : Nat) (T : Nat → Int) (S : Nat → ByteArray) (P I : Nat → Int) (w : World) (hl : len ≤ 65536) (hg : Grid w B 33 4 len (repF T S P I)) :
    Calls Trym.prog 11 #[.slice (some ⟨B, 0, none⟩) len len] w fun e w' => e = .returned (.map (some w.heap.size)) ∧ MapIs w' w.heap.size (repV T S P I) len ∧ w'.heap.size = w.heap.size + 1 ∧ Below w.heap.size w w' := by
  have hBM : B ≠ w.heap.size := by have := hg.lt; omega
  go_enter Trym.func11, Trym.ntmps11
  go_wp2_with (go_at_call 27; refine (new27 _).mono ?_; rintro e w1 ⟨rfl, rfl⟩)
  have h0 : Laying w B w.heap.size len T S P I 0 (w.alloc (.map #[] 0)) := ⟨hg.alloc _, by unfold MapIs; exact Go.Deep.blk_alloc_new _ _, by simp, (Below.refl _ _).alloc (Nat.le_refl _) _⟩
  clear hg
  go_loopw [4] (fun i wr => ∃ k : Nat, k ≤ len ∧ i = .int .i64 k ∧ Laying w B w.heap.size len T S P I k wr) (fun i _ => len - (intOf i).toNat)
  case atStart => exact ⟨0, Nat.zero_le _, rfl, h0⟩
  case round =>
    clear h0
    obtain ⟨k, hk, rfl, hL⟩ := hrel
    by_cases hlt : k < len
    · have hc0 : wr.cell? ⟨B, k * 4, none⟩ = some (.int .u64 (T k)) := hL.grid.cell0 hlt (by omega)
      have hc1 : wr.cell? ⟨B, k * 4 + 1, none⟩ = some (.string (S k)) := hL.grid.cell (r := 1) hlt (by omega)
      have hc2 : wr.cell? ⟨B, k * 4 + 2, none⟩ = some (.int .u64 (P k)) := hL.grid.cell (r := 2) hlt (by omega)
      have hc3 : wr.cell? ⟨B, k * 4 + 3, none⟩ = some (.int .u64 (I k)) := hL.grid.cell (r := 3) hlt (by omega)
      have hput := put28 w.heap.size k (k : Int) T S P I wr.drew (by omega) rfl hL.map.drew
      have hk0 : (0 : Int) ≤ (k : Int) := by omega
      have hk1 : (k : Int) < (len : Int) := by omega
      go_wp2_with fail
      have HL : Hid (Laying w B w.heap.size len T S P I k wr) := hL
      clear hL hlt hk
      go_still_tail 23, mixed
      go_wp2_with (go_at_call 28; refine hput.mono ?_; rintro e w' ⟨rfl, hp⟩)
      go_roundw
      case rel => exact ⟨k + 1, by omega, by go_num, laying_step HL.out hBM hp⟩
      case measure => simp [intOf]; omega
    · obtain rfl : k = len := by omega
      go_wp2_with fail
      go_ret
      exact ⟨rfl, hL.map, hL.size, hL.below⟩

theorem build11_nil (w : World) : Calls Trym.prog 11 #[.slice none 0 0] w fun e w' => e = .returned (.map (some w.heap.size)) ∧ w' = w.alloc (.map #[] 0) := by
  go_enter Trym.func11, Trym.ntmps11
  go_wp2_with (go_at_call 27; refine (new27 _).mono ?_; rintro e w1 ⟨rfl, rfl⟩)
  refine wp_loop_rounds 1 ?_
  rw [rounds_succ]
  go_wp2_with fail
  go_ret
  exact ⟨rfl, rfl⟩
end Go.Proofs.Qxb6604021aMods.Reps
