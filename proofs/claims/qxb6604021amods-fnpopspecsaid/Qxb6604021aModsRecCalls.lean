import Derived.Test.Qxb6604021aModsRecGuards
namespace Go.Proofs.Qxb6604021aMods.Recs
open Go.RowKit
open Grid (Grid)
open Heap (Rec cnt IsHeap upd swap)

theorem info57 : (Trym.prog.info? 57).map (fun i => (i.zero, i.size, i.bytes)) = some (some (.agg #[.int .i64 0, .int .u32 0, .int .u32 0]), 3, 16) := by kernel_rfl
theorem info51 : (Trym.prog.info? 51).map (fun i => (i.zero, i.size, i.bytes)) = some (some (.agg #[.int .i64 0, .int .u32 0, .int .u32 0]), 3, 16) := by kernel_rfl
theorem mixed : Trym.prog.follows .mixedOrders = true := by kernel_rfl

def zeroR : Nat → Rec := fun _ => (0, 0, 0)

theorem made3 (w : World) (len t : Nat) : Grid (w.alloc (.cells (madeCells #[.int .i64 0, .int .u32 0, .int .u32 0] (len * 3)) t)) w.heap.size t 3 len (recF zeroR) :=
  (Grid.grid_made w (.agg #[.int .i64 0, .int .u32 0, .int .u32 0]) 3 len t (recF zeroR 0) rfl (fun r hr => by match r, hr with
    | 0, _ => rfl
    | 1, _ => rfl
    | 2, _ => rfl) (by omega)).congr (by omega) fun i r _ _ => rfl

/-- A store of record k. -/
theorem put3 {wr : World} {B t len : Nat} {R : Nat → Rec} (h : Grid wr B t 3 len (recF R)) (k : Nat) (v : Rec) :
    Grid (((wr.setCell ⟨B, k * 3, none⟩ (.int .i64 v.1)).setCell ⟨B, k * 3 + 1, none⟩ (.int .u32 v.2.1)).setCell ⟨B, k * 3 + 2, none⟩ (.int .u32 v.2.2)) B t 3 len (recF (upd R k v)) := by
  refine (h.set3 k (fun r => match r with | 0 => .int .i64 v.1 | 1 => .int .u32 v.2.1 | _ => .int .u32 v.2.2)).congr (by omega) fun i r _ _ => ?_
  by_cases e : i = k
  · subst e
    match r with
    | 0 => simp [recF, upd]
    | 1 => simp [recF, upd]
    | r + 2 => simp [recF, upd]
  · match r with
    | 0 => simp [recF, upd, e]
    | 1 => simp [recF, upd, e]
    | r + 2 => simp [recF, upd, e]

/-- The first k of R, the rest nought. -/
def upto (R : Nat → Rec) (k : Nat) : Nat → Rec := fun j => if j < k then R j else (0, 0, 0)
theorem upto_succ (R : Nat → Rec) (k : Nat) : upd (upto R k) k (R k) = upto R (k + 1) := by
  funext j
  unfold upd upto
  by_cases e : j = k
  · subst e; simp
  · by_cases h : j < k
    · simp [e, h, show j < k + 1 by omega]
    · simp [e, h, show ¬ j < k + 1 by omega]
theorem upto_full {w : World} {B t len : Nat} {R : Nat → Rec} (h : Grid w B t 3 len (recF (upto R len))) : Grid w B t 3 len (recF R) :=
  h.congr (by omega) fun i r hi _ => by
    have e : upto R len i = R i := by simp [upto, hi]
    match r with
    | 0 => simp [recF, e]
    | 1 => simp [recF, e]
    | r + 2 => simp [recF, e]

/-- The state of a loop that fills a new row of records. -/
structure Filling (w : World) (B t len : Nat) (R : Nat → Rec) (k : Nat) (wr : World) : Prop where
  grid : Grid wr B t 3 len (recF (upto R k))
  size : B < wr.heap.size
  below : Below B w wr

theorem filling_start (w : World) (len t : Nat) (R : Nat → Rec) : Filling w w.heap.size t len R 0 (w.alloc (.cells (madeCells #[.int .i64 0, .int .u32 0, .int .u32 0] (len * 3)) t)) :=
  ⟨made3 w len t, by simp, (Below.refl _ _).alloc (Nat.le_refl _) _⟩

theorem filling_step {w wr : World} {B t len k : Nat} {R : Nat → Rec} (h : Filling w B t len R k wr) :
    Filling w B t len R (k + 1) (((wr.setCell ⟨B, k * 3, none⟩ (.int .i64 (R k).1)).setCell ⟨B, k * 3 + 1, none⟩ (.int .u32 (R k).2.1)).setCell ⟨B, k * 3 + 2, none⟩ (.int .u32 (R k).2.2)) := by
  refine ⟨?_, by simpa [World.setCell] using h.size, ((h.below.setCell (Nat.le_refl _) _).setCell (Nat.le_refl _) _).setCell (Nat.le_refl _) _⟩
  have := put3 h.grid k (R k)
  rw [upto_succ] at this
  exact this

theorem Filling.alloc {w wr : World} {B t len k : Nat} {R : Nat → Rec} (h : Filling w B t len R k wr) (o : Obj) : Filling w B t len R k (wr.alloc o) :=
  ⟨h.grid.alloc o, by have := h.size; simp; omega, h.below.alloc (by have := h.size; omega) o⟩
theorem Filling.kept {w wr wr' : World} {B t len k : Nat} {R : Nat → Rec} (h : Filling w B t len R k wr) (hk : Kept wr wr') : Filling w B t len R k wr' :=
  ⟨h.grid.of_block (by rw [hk.heap]), by rw [hk.heap]; exact h.size, h.below.trans (hk.below _)⟩

set_option maxHeartbeats 1000000 in
theorem clone19 (x : Addr) (len cap : Nat) (R : Nat → Rec) (w : World) (hl : len ≤ 4096) (hc : Recs w x len R) :
    Calls Trym.prog 19 #[.slice (some x) len cap] w fun e w' => e = .returned (.slice (some ⟨w.heap.size, 0, none⟩) len len) ∧ Grid w' w.heap.size 57 3 len (recF R) ∧ w'.heap.size = w.heap.size + 1 ∧ Below w.heap.size w w' := by
  have hmk := Grid.run_make_grid (P := Trym.prog) 43 57 (.agg #[.int .i64 0, .int .u32 0, .int .u32 0]) 3 16 Trym.underlying43 info57 .i64 .i64 len (by omega) (by omega)
  have hnn := fun (a : Option Addr) (l c : Nat) (w : World) => Lib.run_eql_slice_nil (P := Trym.prog) w 43 57 a l c 0 0 Trym.underlying43
  have h0 := filling_start w len 57 R
  go_enter Trym.func19, Trym.ntmps19
  go_wp2
  clear hmk hnn
  go_loopw [4] (fun i wr => ∃ k : Nat, k ≤ len ∧ i = .int .i64 k ∧ Filling w w.heap.size 57 len R k wr ∧ wr.heap.size = w.heap.size + 1) (fun i _ => len - (intOf i).toNat)
  case atStart => exact ⟨0, Nat.zero_le _, rfl, h0, by simp⟩
  case round =>
    clear h0
    obtain ⟨k, hk, rfl, hF, hsz⟩ := hrel
    by_cases hlt : k < len
    · have hR := recs_below hc hF.below
      have hc0 := hR.c0 k hlt
      have hc1 := hR.c1 k hlt
      have hc2 := hR.c2 k hlt
      have hd0 := hF.grid.cell0 hlt (by omega)
      have hd1 := hF.grid.cell (r := 1) hlt (by omega)
      have hd2 := hF.grid.cell (r := 2) hlt (by omega)
      have hf := hF.grid.frozen
      have HS := filling_step hF
      have HZ : Hid ((((wr.setCell ⟨w.heap.size, k * 3, none⟩ (.int .i64 (R k).1)).setCell ⟨w.heap.size, k * 3 + 1, none⟩ (.int .u32 (R k).2.1)).setCell ⟨w.heap.size, k * 3 + 2, none⟩ (.int .u32 (R k).2.2)).heap.size = w.heap.size + 1) := by show _ = _; rw [← hsz]; simp [World.setCell]
      clear hR hsz
      go_wp2
      go_roundw
      case rel => exact ⟨k + 1, by omega, by go_num, HS, HZ.out⟩
      case measure => simp [intOf]; omega
    · obtain rfl : k = len := by omega
      have HG := upto_full hF.grid
      have hb := hF.below
      clear hF hc
      go_wp2
      go_ret
      exact ⟨rfl, HG, hsz, hb⟩

theorem clone19_nil (w : World) : Calls Trym.prog 19 #[.slice none 0 0] w fun e w' => e = .returned (.slice none 0 0) ∧ w = w' := by
  have hnn := fun (a : Option Addr) (l c : Nat) (w : World) => Lib.run_eql_slice_nil (P := Trym.prog) w 43 57 a l c 0 0 Trym.underlying43
  go_enter Trym.func19, Trym.ntmps19
  go_wp2
  go_ret
  exact ⟨rfl, rfl⟩

theorem record30 (a b c : Int) (w : World) : Calls Trym.prog 30 #[.int .i64 a, .int .u32 b, .int .u32 c] w fun e w' => e = .returned (.agg #[.int .i64 a, .int .u32 b, .int .u32 c]) ∧ ∃ o, w' = w.alloc o := by
  go_enter Trym.func30, Trym.ntmps30
  go_wp2
  exact bodyPost_ret (v := .agg #[.int .i64 a, .int .u32 b, .int .u32 c]) (by simp [results, Trym.results30, go_sem]) rfl ⟨rfl, _, rfl⟩

set_option maxRecDepth 20000 in
theorem fields22 (a b c : Int) (w : World) : Calls Trym.prog 22 #[.agg #[.int .i64 a, .int .u32 b, .int .u32 c]] w fun e w' => e = .returned (.tuple #[.int .i64 a, .int .u32 b, .int .u32 c]) ∧ ∃ o, Kept (w.alloc o) w' := by
  go_enter Trym.func22, Trym.ntmps22
  go_wp2
  go_quiet (fail)
  go_wp2
  go_ret3
  exact ⟨rfl, _, (Kept.refl _).drewN _⟩
end Go.Proofs.Qxb6604021aMods.Recs
