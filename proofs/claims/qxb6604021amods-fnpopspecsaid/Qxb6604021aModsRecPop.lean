import Derived.Test.Qxb6604021aModsRecCalls
import Derived.BigRegion
namespace Go.Proofs.Qxb6604021aMods.Recs
open Go.RowKit
open Grid (Grid)
open Heap (Rec cnt IsHeap upd swap Sift Popped)

/-- The state of pop's loop: the record that was last sinks, now at k. -/
structure Sinking (w : World) (Q H c m : Nat) (top : Rec) (R0 : Nat → Rec) (k : Nat) (R' : Nat → Rec) (wr : World) : Prop where
  grid : Grid wr H 51 3 c (recF R')
  ptr : wr.rowIs Q 47 1 (fun _ => .slice (some ⟨H, 0, none⟩) (m + 1) c)
  res : wr.rowIs w.heap.size 51 3 (recF zeroR 0)
  top : wr.rowIs (w.heap.size + 1) 51 3 (recF (fun _ => top) 0)
  size : wr.heap.size = w.heap.size + 2
  other : ∀ b, b < w.heap.size → b ≠ H → wr.heap[b]? = w.heap[b]?
  os : wr.os = w.os
  tape : wr.tape = w.tape
  output : wr.output = w.output
  sift : Sift R0 m R' k

theorem row3 {w : World} {R : Nat → Rec} {t : TypeId} : (w.alloc (.cells #[.int .i64 (R 0).1, .int .u32 (R 0).2.1, .int .u32 (R 0).2.2] t)).rowIs w.heap.size t 3 (recF R 0) :=
  World.rowIs_alloc w #[.int .i64 (R 0).1, .int .u32 (R 0).2.1, .int .u32 (R 0).2.2] t (recF R 0) fun i hi => by
    match i, hi with
    | 0, _ => rfl
    | 1, _ => rfl
    | 2, _ => rfl

theorem sinking_start {w : World} {Q H c m : Nat} {R : Nat → Rec} (hg : Grid w H 51 3 c (recF R)) (hQ : w.rowIs Q 47 1 (fun _ => .slice (some ⟨H, 0, none⟩) (m + 1) c)) (hQH : Q ≠ H) (hh : IsHeap R (m + 1)) :
    Sinking w Q H c m (R 0) (upd R 0 (R m)) 0 (upd R 0 (R m)) (((((w.setCell ⟨H, 0, none⟩ (.int .i64 (R m).1)).setCell ⟨H, 1, none⟩ (.int .u32 (R m).2.1)).setCell ⟨H, 2, none⟩ (.int .u32 (R m).2.2)).alloc (.cells #[.int .i64 0, .int .u32 0, .int .u32 0] 51)).alloc
      (.cells #[.int .i64 (R 0).1, .int .u32 (R 0).2.1, .int .u32 (R 0).2.2] 51)) := by
  have h1 : Grid (((w.setCell ⟨H, 0, none⟩ (.int .i64 (R m).1)).setCell ⟨H, 1, none⟩ (.int .u32 (R m).2.1)).setCell ⟨H, 2, none⟩ (.int .u32 (R m).2.2)) H 51 3 c (recF (upd R 0 (R m))) := put3 hg 0 (R m)
  have h2 := ((hQ.setOther (a := ⟨H, 0, none⟩) hQH (.int .i64 (R m).1)).setOther (a := ⟨H, 1, none⟩) hQH (.int .u32 (R m).2.1)).setOther (a := ⟨H, 2, none⟩) hQH (.int .u32 (R m).2.2)
  have h3 : (((w.setCell ⟨H, 0, none⟩ (.int .i64 (R m).1)).setCell ⟨H, 1, none⟩ (.int .u32 (R m).2.1)).setCell ⟨H, 2, none⟩ (.int .u32 (R m).2.2)).heap.size = w.heap.size := by simp [World.setCell]
  have h4 : ∀ b, b ≠ H → (((w.setCell ⟨H, 0, none⟩ (.int .i64 (R m).1)).setCell ⟨H, 1, none⟩ (.int .u32 (R m).2.1)).setCell ⟨H, 2, none⟩ (.int .u32 (R m).2.2)).heap[b]? = w.heap[b]? := fun b hb => by
    rw [Below.heap_setCell _ _ _ _ hb, Below.heap_setCell _ _ _ _ hb, Below.heap_setCell _ _ _ _ hb]
  have h5 : (((w.setCell ⟨H, 0, none⟩ (.int .i64 (R m).1)).setCell ⟨H, 1, none⟩ (.int .u32 (R m).2.1)).setCell ⟨H, 2, none⟩ (.int .u32 (R m).2.2)).os = w.os ∧ (((w.setCell ⟨H, 0, none⟩ (.int .i64 (R m).1)).setCell ⟨H, 1, none⟩ (.int .u32 (R m).2.1)).setCell ⟨H, 2, none⟩ (.int .u32 (R m).2.2)).tape = w.tape ∧ (((w.setCell ⟨H, 0, none⟩ (.int .i64 (R m).1)).setCell ⟨H, 1, none⟩ (.int .u32 (R m).2.1)).setCell ⟨H, 2, none⟩ (.int .u32 (R m).2.2)).output = w.output := ⟨rfl, rfl, rfl⟩
  generalize ((w.setCell ⟨H, 0, none⟩ (.int .i64 (R m).1)).setCell ⟨H, 1, none⟩ (.int .u32 (R m).2.1)).setCell ⟨H, 2, none⟩ (.int .u32 (R m).2.2) = w1 at *
  have e1 := row3 (w := w1) (R := zeroR) (t := 51)
  have e2 := row3 (w := w1.alloc (.cells #[.int .i64 0, .int .u32 0, .int .u32 0] 51)) (R := fun _ => R 0) (t := 51)
  have e3 : (w1.alloc (.cells #[.int .i64 0, .int .u32 0, .int .u32 0] 51)).heap.size = w.heap.size + 1 := by simp [h3]
  rw [h3] at e1
  rw [e3] at e2
  refine ⟨(h1.alloc _).alloc _, (h2.alloc _).alloc _, World.rowIs.alloc e1 _, e2, by simp [h3], fun b hb hbH => ?_, h5.1, h5.2.1, h5.2.2, Heap.sift_start hh⟩
  rw [Below.heap_alloc _ _ _ (by rw [e3]; omega), Below.heap_alloc _ _ _ (by omega)]
  exact h4 b hbH

theorem Sinking.drewN {w : World} {Q H c m k : Nat} {top : Rec} {R0 R' : Nat → Rec} {wr : World} (h : Sinking w Q H c m top R0 k R' wr) (n : Nat) : Sinking w Q H c m top R0 k R' (wr.drewN n) :=
  ⟨h.grid, h.ptr, h.res, h.top, h.size, h.other, h.os, h.tape, h.output, h.sift⟩

/-- The world behind a store of record v at place k. -/
def st3 (wr : World) (H k : Nat) (v : Rec) : World := ((wr.setCell ⟨H, k * 3, none⟩ (.int .i64 v.1)).setCell ⟨H, k * 3 + 1, none⟩ (.int .u32 v.2.1)).setCell ⟨H, k * 3 + 2, none⟩ (.int .u32 v.2.2)
theorem st3_other (wr : World) (H k : Nat) (v : Rec) (b : Nat) (hb : b ≠ H) : (st3 wr H k v).heap[b]? = wr.heap[b]? := by
  unfold st3
  rw [Below.heap_setCell _ ⟨H, k * 3 + 2, none⟩ _ _ hb, Below.heap_setCell _ ⟨H, k * 3 + 1, none⟩ _ _ hb, Below.heap_setCell _ ⟨H, k * 3, none⟩ _ _ hb]
theorem st3_size (wr : World) (H k : Nat) (v : Rec) : (st3 wr H k v).heap.size = wr.heap.size := by
  simp [st3, World.setCell]
theorem st3_grid {wr : World} {B t len : Nat} {R : Nat → Rec} (h : Grid wr B t 3 len (recF R)) (k : Nat) (v : Rec) : Grid (st3 wr B k v) B t 3 len (recF (upd R k v)) := put3 h k v
theorem st3_rest (wr : World) (H k : Nat) (v : Rec) : (st3 wr H k v).os = wr.os ∧ (st3 wr H k v).tape = wr.tape ∧ (st3 wr H k v).output = wr.output := ⟨rfl, rfl, rfl⟩

theorem sinking_swap {w : World} {Q H c m k l : Nat} {top : Rec} {R0 R' : Nat → Rec} {wr : World} (h : Sinking w Q H c m top R0 k R' wr) (hHl : H < w.heap.size) (hQH : Q ≠ H) (hk : k < m) (hl : l < m) (hp : 1 ≤ l ∧ (l - 1) / 2 = k) (hlt : (R' l).1 < (R' k).1)
    (hmin : ∀ j, 1 ≤ j → j < m → (j - 1) / 2 = k → (R' l).1 ≤ (R' j).1) :
    Sinking w Q H c m top R0 l (swap R' k l) (st3 (st3 wr H k (R' l)) H l (R' k)) := by
  have n0 : w.heap.size ≠ H := by omega
  have n1 : w.heap.size + 1 ≠ H := by omega
  have ho : ∀ b, b ≠ H → (st3 (st3 wr H k (R' l)) H l (R' k)).heap[b]? = wr.heap[b]? := fun b hb => by rw [st3_other _ _ _ _ _ hb, st3_other _ _ _ _ _ hb]
  have hr : (st3 (st3 wr H k (R' l)) H l (R' k)).os = wr.os ∧ (st3 (st3 wr H k (R' l)) H l (R' k)).tape = wr.tape ∧ (st3 (st3 wr H k (R' l)) H l (R' k)).output = wr.output := by
    have r1 := st3_rest wr H k (R' l)
    have r2 := st3_rest (st3 wr H k (R' l)) H l (R' k)
    exact ⟨r2.1.trans r1.1, r2.2.1.trans r1.2.1, r2.2.2.trans r1.2.2⟩
  have hz : (st3 (st3 wr H k (R' l)) H l (R' k)).heap.size = wr.heap.size := by rw [st3_size, st3_size]
  have hg : Grid (st3 (st3 wr H k (R' l)) H l (R' k)) H 51 3 c (recF (swap R' k l)) := by
    unfold swap
    exact st3_grid (st3_grid h.grid k (R' l)) l (R' k)
  generalize st3 (st3 wr H k (R' l)) H l (R' k) = w2 at *
  exact ⟨hg, h.ptr.of_block (ho _ hQH), h.res.of_block (ho _ n0), h.top.of_block (ho _ n1), by rw [hz]; exact h.size, fun b hb hbH => (ho b hbH).trans (h.other b hb hbH), hr.1.trans h.os, hr.2.1.trans h.tape, hr.2.2.trans h.output, Heap.sift_step h.sift hk hl hp hlt hmin⟩

/-- All that was there stands, but for the heap's row and the variable that holds its slice. -/
structure Rest (Q H : Nat) (w w' : World) : Prop where
  other : ∀ b, b < w.heap.size → b ≠ H → b ≠ Q → w'.heap[b]? = w.heap[b]?
  size : w.heap.size ≤ w'.heap.size
  os : w'.os = w.os
  tape : w'.tape = w.tape
  output : w'.output = w.output

/-- What pop leaves. -/
structure PopLeft (Q H m c : Nat) (R R' : Nat → Rec) (w w' : World) : Prop where
  popped : Popped R m R'
  grid : Grid w' H 51 3 c (recF R')
  ptr : w'.rowIs Q 47 1 (fun _ => .slice (some ⟨H, 0, none⟩) m c)
  rest : Rest Q H w w'

def PopRet (Q H m c : Nat) (R : Nat → Rec) (w : World) (e : Ending) (w' : World) : Prop :=
  ∃ R', e = .returned (.agg #[.int .i64 (R 0).1, .int .u32 (R 0).2.1, .int .u32 (R 0).2.2]) ∧ PopLeft Q H m c R R' w w'

theorem popLeft_of {w : World} {Q H c m k : Nat} {R R' : Nat → Rec} {wr : World} (h : Sinking w Q H c m (R 0) (upd R 0 (R m)) k R' wr) (hHl : H < w.heap.size) (hQl : Q < w.heap.size) (hQH : Q ≠ H) (hmin : ∀ j, 1 ≤ j → j < m → (j - 1) / 2 = k → (R' k).1 ≤ (R' j).1) (v0 v1 v2 : Value) :
    PopLeft Q H m c R R' w ((((wr.setCell ⟨Q, 0, none⟩ (.slice (some ⟨H, 0, none⟩) m c)).setCell ⟨w.heap.size, 0, none⟩ v0).setCell ⟨w.heap.size, 1, none⟩ v1).setCell ⟨w.heap.size, 2, none⟩ v2) := by
  have nH : H ≠ w.heap.size := by omega
  have nQ : Q ≠ w.heap.size := by omega
  refine ⟨Heap.popped_of h.sift.perm (Heap.sift_end h.sift hmin), ?_, ?_, ⟨fun b hb h1 h2 => ?_, ?_, h.os, h.tape, h.output⟩⟩
  · exact (((h.grid.setOther (a := ⟨Q, 0, none⟩) (Ne.symm hQH) _).setOther (a := ⟨w.heap.size, 0, none⟩) nH _).setOther (a := ⟨w.heap.size, 1, none⟩) nH _).setOther (a := ⟨w.heap.size, 2, none⟩) nH _
  · have h0 : (wr.setCell ⟨Q, 0, none⟩ (.slice (some ⟨H, 0, none⟩) m c)).rowIs Q 47 1 (fun _ => .slice (some ⟨H, 0, none⟩) m c) := (h.ptr.set 0 _).congr fun j hj => by simp [show j = 0 by omega]
    exact ((h0.setOther (a := ⟨w.heap.size, 0, none⟩) nQ _).setOther (a := ⟨w.heap.size, 1, none⟩) nQ _).setOther (a := ⟨w.heap.size, 2, none⟩) nQ _
  · have hb' : b ≠ w.heap.size := by omega
    rw [Below.heap_setCell _ ⟨w.heap.size, 2, none⟩ _ _ hb', Below.heap_setCell _ ⟨w.heap.size, 1, none⟩ _ _ hb', Below.heap_setCell _ ⟨w.heap.size, 0, none⟩ _ _ hb', Below.heap_setCell _ ⟨Q, 0, none⟩ _ _ h2]
    exact h.other b hb h1
  · have := h.size
    simp [World.setCell]
    omega

set_option maxRecDepth 20000 in
set_option maxHeartbeats 2000000 in
theorem pop31 (Q H m c : Nat) (R : Nat → Rec) (w : World) (hm : m ≤ 4095) (hmc : m + 1 ≤ c) (hg : Grid w H 51 3 c (recF R)) (hQ : w.rowIs Q 47 1 (fun _ => .slice (some ⟨H, 0, none⟩) (m + 1) c)) (hQH : Q ≠ H) (hh : IsHeap R (m + 1)) :
    Calls Trym.prog 31 #[.pointer (some ⟨Q, 0, none⟩)] w fun e w' => PopRet Q H m c R w e w' := by
  have hq := hQ.cell (i := 0) (by omega)
  have a0 : w.cell? ⟨H, 0, none⟩ = some (.int .i64 (R 0).1) := hg.cell (i := 0) (r := 0) (by omega) (by omega)
  have a1 : w.cell? ⟨H, 1, none⟩ = some (.int .u32 (R 0).2.1) := hg.cell (i := 0) (r := 1) (by omega) (by omega)
  have a2 : w.cell? ⟨H, 2, none⟩ = some (.int .u32 (R 0).2.2) := hg.cell (i := 0) (r := 2) (by omega) (by omega)
  have b0 : w.cell? ⟨H, m * 3, none⟩ = some (.int .i64 (R m).1) := hg.cell0 (by omega) (by omega)
  have b1 : w.cell? ⟨H, m * 3 + 1, none⟩ = some (.int .u32 (R m).2.1) := hg.cell (r := 1) (by omega) (by omega)
  have b2 : w.cell? ⟨H, m * 3 + 2, none⟩ = some (.int .u32 (R m).2.2) := hg.cell (r := 2) (by omega) (by omega)
  have hf := hg.frozen
  have hHl := hg.lt
  have hQl := hQ.lt
  have hS := sinking_start hg hQ hQH hh
  clear hg hQ
  go_enter Trym.func31, Trym.ntmps31
  go_wp2_with fail
  clear a0 a1 a2 b0 b1 b2 hq hf
  go_loopw [5] (fun i wr => ∃ (k : Nat) (R' : Nat → Rec), k ≤ m ∧ i = .int .i64 k ∧ Sinking w Q H c m (R 0) (upd R 0 (R m)) k R' wr) (fun i _ => m - (intOf i).toNat)
  case atStart => exact ⟨0, _, Nat.zero_le _, rfl, hS⟩
  case round =>
    clear hS
    obtain ⟨k, R', hk, rfl, hS⟩ := hrel
    have c0 : ∀ j, j < m → wr.cell? ⟨H, j * 3, none⟩ = some (.int .i64 (R' j).1) := fun j hj => hS.grid.cell0 (by omega) (by omega)
    have c1 : ∀ j, j < m → wr.cell? ⟨H, j * 3 + 1, none⟩ = some (.int .u32 (R' j).2.1) := fun j hj => hS.grid.cell (r := 1) (by omega) (by omega)
    have c2 : ∀ j, j < m → wr.cell? ⟨H, j * 3 + 2, none⟩ = some (.int .u32 (R' j).2.2) := fun j hj => hS.grid.cell (r := 2) (by omega) (by omega)
    have hfr := hS.grid.frozen
    by_cases h1 : 2 * k + 1 < m
    · have l0 := c0 (2 * k + 1) h1
      have l1 := c1 (2 * k + 1) h1
      have l2 := c2 (2 * k + 1) h1
      have k0 := c0 k (by omega)
      have k1 := c1 k (by omega)
      have k2 := c2 k (by omega)
      have h1' : 2 * (k : Int) + 1 < (m : Int) := by omega
      have hkm : (k : Int) < (m : Int) := by omega
      by_cases t1 : (R' (2 * k + 1)).1 < (R' k).1
      · by_cases h2 : 2 * k + 2 < m
        · by_cases t2 : (R' (2 * k + 2)).1 < (R' (2 * k + 1)).1
          · have r0 := c0 (2 * k + 2) h2
            have r1 := c1 (2 * k + 2) h2
            have r2 := c2 (2 * k + 2) h2
            have h2' : 2 * (k : Int) + 2 < (m : Int) := by omega
            clear c0 c1 c2
            have HS : Hid (Sinking w Q H c m (R 0) (upd R 0 (R m)) k R' wr) := hS
            clear hS
            go_wp2_with fail
            go_quiet (fail)
            go_wp2_with fail
            go_quiet (fail)
            go_wp2_with fail
            go_region
            go_wp2_with fail
            go_roundw
            case rel => exact ⟨2 * k + 2, _, by omega, by go_num, sinking_swap (HS.out.drewN _) hHl hQH (by omega) (by omega) ⟨by omega, by omega⟩ (by omega) (fun j g1 g2 g3 => by rcases (show j = 2 * k + 1 ∨ j = 2 * k + 2 from by omega) with rfl | rfl <;> omega)⟩
            case measure => simp [intOf]; omega
          · have r0 := c0 (2 * k + 2) h2
            have r1 := c1 (2 * k + 2) h2
            have r2 := c2 (2 * k + 2) h2
            have h2' : 2 * (k : Int) + 2 < (m : Int) := by omega
            clear c0 c1 c2
            have HS : Hid (Sinking w Q H c m (R 0) (upd R 0 (R m)) k R' wr) := hS
            clear hS
            go_wp2_with fail
            go_quiet (fail)
            go_wp2_with fail
            go_quiet (fail)
            go_wp2_with fail
            go_region
            go_wp2_with fail
            go_roundw
            case rel => exact ⟨2 * k + 1, _, by omega, by go_num, sinking_swap (HS.out.drewN _) hHl hQH (by omega) (by omega) ⟨by omega, by omega⟩ (by omega) (fun j g1 g2 g3 => by rcases (show j = 2 * k + 1 ∨ j = 2 * k + 2 from by omega) with rfl | rfl <;> omega)⟩
            case measure => simp [intOf]; omega
        · have hd : decide (2 * (k : Int) + 2 < (m : Int)) = false := by simp; omega
          clear c0 c1 c2
          have HS : Hid (Sinking w Q H c m (R 0) (upd R 0 (R m)) k R' wr) := hS
          clear hS
          go_wp2_with fail
          go_quiet (fail)
          go_wp2_with fail
          go_quiet (fail)
          go_wp2_with fail
          go_region
          go_wp2_with fail
          go_roundw
          case rel => exact ⟨2 * k + 1, _, by omega, by go_num, sinking_swap (HS.out.drewN _) hHl hQH (by omega) (by omega) ⟨by omega, by omega⟩ (by omega) (fun j g1 g2 g3 => by rw [show j = 2 * k + 1 from by omega]; exact Int.le_refl _)⟩
          case measure => simp [intOf]; omega
      · by_cases h2 : 2 * k + 2 < m
        · by_cases t2 : (R' (2 * k + 2)).1 < (R' k).1
          · have r0 := c0 (2 * k + 2) h2
            have r1 := c1 (2 * k + 2) h2
            have r2 := c2 (2 * k + 2) h2
            have h2' : 2 * (k : Int) + 2 < (m : Int) := by omega
            clear c0 c1 c2
            have HS : Hid (Sinking w Q H c m (R 0) (upd R 0 (R m)) k R' wr) := hS
            clear hS
            go_wp2_with fail
            go_quiet (fail)
            go_wp2_with fail
            go_quiet (fail)
            go_wp2_with fail
            go_region
            go_wp2_with fail
            go_roundw
            case rel => exact ⟨2 * k + 2, _, by omega, by go_num, sinking_swap (HS.out.drewN _) hHl hQH (by omega) (by omega) ⟨by omega, by omega⟩ (by omega) (fun j g1 g2 g3 => by rcases (show j = 2 * k + 1 ∨ j = 2 * k + 2 from by omega) with rfl | rfl <;> omega)⟩
            case measure => simp [intOf]; omega
          · have q0 := c0 (2 * k + 2) h2
            have q1 := c1 (2 * k + 2) h2
            have q2 := c2 (2 * k + 2) h2
            have h2' : 2 * (k : Int) + 2 < (m : Int) := by omega
            have p0 : wr.cell? ⟨Q, 0, none⟩ = some (.slice (some ⟨H, 0, none⟩) (m + 1) c) := hS.ptr.cell (i := 0) (by omega)
            have p1 := hS.ptr.frozen 0
            have r0 : wr.cell? ⟨w.heap.size, 0, none⟩ = some (.int .i64 0) := hS.res.cell (i := 0) (by omega)
            have r1 : wr.cell? ⟨w.heap.size, 1, none⟩ = some (.int .u32 0) := hS.res.cell (i := 1) (by omega)
            have r2 : wr.cell? ⟨w.heap.size, 2, none⟩ = some (.int .u32 0) := hS.res.cell (i := 2) (by omega)
            have r3 := hS.res.frozen
            have u0 : wr.cell? ⟨w.heap.size + 1, 0, none⟩ = some (.int .i64 (R 0).1) := hS.top.cell (i := 0) (by omega)
            have u1 : wr.cell? ⟨w.heap.size + 1, 1, none⟩ = some (.int .u32 (R 0).2.1) := hS.top.cell (i := 1) (by omega)
            have u2 : wr.cell? ⟨w.heap.size + 1, 2, none⟩ = some (.int .u32 (R 0).2.2) := hS.top.cell (i := 2) (by omega)
            have HS : Hid (Sinking w Q H c m (R 0) (upd R 0 (R m)) k R' wr) := hS
            have hQN : Q ≠ w.heap.size := by omega
            have hQN1 : Q ≠ w.heap.size + 1 := by omega
            clear c0 c1 c2 hS
            go_wp2_with fail
            go_quiet (fail)
            go_wp2_with fail
            go_quiet (fail)
            go_wp2_with fail
            exact bodyPost_ret (v := .agg #[.int .i64 (R 0).1, .int .u32 (R 0).2.1, .int .u32 (R 0).2.2]) (by simp [results, Trym.results31, go_sem, r0, r1, r2]) rfl ⟨R', rfl, popLeft_of (HS.out.drewN _) hHl hQl hQH (fun j g1 g2 g3 => by rcases (show j = 2 * k + 1 ∨ j = 2 * k + 2 from by omega) with rfl | rfl <;> omega) _ _ _⟩
        · have hd : decide (2 * (k : Int) + 2 < (m : Int)) = false := by simp; omega
          have p0 : wr.cell? ⟨Q, 0, none⟩ = some (.slice (some ⟨H, 0, none⟩) (m + 1) c) := hS.ptr.cell (i := 0) (by omega)
          have p1 := hS.ptr.frozen 0
          have r0 : wr.cell? ⟨w.heap.size, 0, none⟩ = some (.int .i64 0) := hS.res.cell (i := 0) (by omega)
          have r1 : wr.cell? ⟨w.heap.size, 1, none⟩ = some (.int .u32 0) := hS.res.cell (i := 1) (by omega)
          have r2 : wr.cell? ⟨w.heap.size, 2, none⟩ = some (.int .u32 0) := hS.res.cell (i := 2) (by omega)
          have r3 := hS.res.frozen
          have u0 : wr.cell? ⟨w.heap.size + 1, 0, none⟩ = some (.int .i64 (R 0).1) := hS.top.cell (i := 0) (by omega)
          have u1 : wr.cell? ⟨w.heap.size + 1, 1, none⟩ = some (.int .u32 (R 0).2.1) := hS.top.cell (i := 1) (by omega)
          have u2 : wr.cell? ⟨w.heap.size + 1, 2, none⟩ = some (.int .u32 (R 0).2.2) := hS.top.cell (i := 2) (by omega)
          have HS : Hid (Sinking w Q H c m (R 0) (upd R 0 (R m)) k R' wr) := hS
          have hQN : Q ≠ w.heap.size := by omega
          have hQN1 : Q ≠ w.heap.size + 1 := by omega
          clear c0 c1 c2 hS
          go_wp2_with fail
          go_quiet (fail)
          go_wp2_with fail
          go_quiet (fail)
          go_wp2_with fail
          exact bodyPost_ret (v := .agg #[.int .i64 (R 0).1, .int .u32 (R 0).2.1, .int .u32 (R 0).2.2]) (by simp [results, Trym.results31, go_sem, r0, r1, r2]) rfl ⟨R', rfl, popLeft_of (HS.out.drewN _) hHl hQl hQH (fun j g1 g2 g3 => by rw [show j = 2 * k + 1 from by omega]; omega) _ _ _⟩
    · have hd1 : decide (2 * (k : Int) + 1 < (m : Int)) = false := by simp; omega
      have hd : decide (2 * (k : Int) + 2 < (m : Int)) = false := by simp; omega
      have p0 : wr.cell? ⟨Q, 0, none⟩ = some (.slice (some ⟨H, 0, none⟩) (m + 1) c) := hS.ptr.cell (i := 0) (by omega)
      have p1 := hS.ptr.frozen 0
      have r0 : wr.cell? ⟨w.heap.size, 0, none⟩ = some (.int .i64 0) := hS.res.cell (i := 0) (by omega)
      have r1 : wr.cell? ⟨w.heap.size, 1, none⟩ = some (.int .u32 0) := hS.res.cell (i := 1) (by omega)
      have r2 : wr.cell? ⟨w.heap.size, 2, none⟩ = some (.int .u32 0) := hS.res.cell (i := 2) (by omega)
      have r3 := hS.res.frozen
      have u0 : wr.cell? ⟨w.heap.size + 1, 0, none⟩ = some (.int .i64 (R 0).1) := hS.top.cell (i := 0) (by omega)
      have u1 : wr.cell? ⟨w.heap.size + 1, 1, none⟩ = some (.int .u32 (R 0).2.1) := hS.top.cell (i := 1) (by omega)
      have u2 : wr.cell? ⟨w.heap.size + 1, 2, none⟩ = some (.int .u32 (R 0).2.2) := hS.top.cell (i := 2) (by omega)
      have HS : Hid (Sinking w Q H c m (R 0) (upd R 0 (R m)) k R' wr) := hS
      have hQN : Q ≠ w.heap.size := by omega
      have hQN1 : Q ≠ w.heap.size + 1 := by omega
      clear c0 c1 c2 hS
      go_wp2_with fail
      go_quiet (fail)
      go_wp2_with fail
      go_quiet (fail)
      go_wp2_with fail
      exact bodyPost_ret (v := .agg #[.int .i64 (R 0).1, .int .u32 (R 0).2.1, .int .u32 (R 0).2.2]) (by simp [results, Trym.results31, go_sem, r0, r1, r2]) rfl ⟨R', rfl, popLeft_of (HS.out.drewN _) hHl hQl hQH (fun j g1 g2 g3 => by omega) _ _ _⟩
end Go.Proofs.Qxb6604021aMods.Recs
