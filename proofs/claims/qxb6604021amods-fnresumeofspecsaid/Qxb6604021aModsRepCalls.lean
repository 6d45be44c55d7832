import Derived.Test.Qxb6604021aModsRepGuards
import Derived.Test.Qxb6604021aModsGrid
import Derived.Maps.RangeWalk
import Derived.StillTailTactics
namespace Go.Proofs.Qxb6604021aMods.Reps
open Go.RowKit
open Grid (Grid)

theorem info33 : (Trym.prog.info? 33).map (fun i => (i.zero, i.size, i.bytes)) = some (some (.agg #[.int .u64 0, .string ⟨#[]⟩, .int .u64 0, .int .u64 0]), 4, 40) := by kernel_rfl

/-- The cells of a report. -/
def repF (T : Nat → Int) (S : Nat → ByteArray) (P I : Nat → Int) (i : Nat) : Nat → Value
  | 0 => .int .u64 (T i)
  | 1 => .string (S i)
  | 2 => .int .u64 (P i)
  | _ => .int .u64 (I i)

theorem reps_below {w w' : World} {x : Addr} {len : Nat} {T : Nat → Int} {S : Nat → ByteArray} {P I : Nat → Int} (h : Reps w x len T S P I) (hb : Below w.heap.size w w') : Reps w' x len T S P I :=
  ⟨fun i hi => (hb.cell (Grid.lt_of_cell (h.term i hi))).trans (h.term i hi), fun i hi => (hb.cell (Grid.lt_of_cell (h.state i hi))).trans (h.state i hi), fun i hi => (hb.cell (Grid.lt_of_cell (h.lterm i hi))).trans (h.lterm i hi), fun i hi => (hb.cell (Grid.lt_of_cell (h.lindex i hi))).trans (h.lindex i hi), h.small⟩

/-- A round of a loop that fills a grid from the front. -/
theorem fill4 {w wr : World} {B t len k : Nat} {f g : Nat → Nat → Value} (h : Grid wr B t 4 len (fun j r => if j < k then f j r else g j r)) (hB : w.heap.size ≤ B) (hsz : wr.heap.size = B + 1) (hbel : Below w.heap.size w wr) :
    Grid ((((wr.setCell ⟨B, k * 4, none⟩ (f k 0)).setCell ⟨B, k * 4 + 1, none⟩ (f k 1)).setCell ⟨B, k * 4 + 2, none⟩ (f k 2)).setCell ⟨B, k * 4 + 3, none⟩ (f k 3)) B t 4 len (fun j r => if j < k + 1 then f j r else g j r) ∧
    ((((wr.setCell ⟨B, k * 4, none⟩ (f k 0)).setCell ⟨B, k * 4 + 1, none⟩ (f k 1)).setCell ⟨B, k * 4 + 2, none⟩ (f k 2)).setCell ⟨B, k * 4 + 3, none⟩ (f k 3)).heap.size = B + 1 ∧
    Below w.heap.size w ((((wr.setCell ⟨B, k * 4, none⟩ (f k 0)).setCell ⟨B, k * 4 + 1, none⟩ (f k 1)).setCell ⟨B, k * 4 + 2, none⟩ (f k 2)).setCell ⟨B, k * 4 + 3, none⟩ (f k 3)) := by
  refine ⟨(h.set4 k (f k)).congr (by omega) fun j r _ _ => ?_, by rw [← hsz]; simp [World.setCell], (((hbel.setCell hB _).setCell hB _).setCell hB _).setCell hB _⟩
  by_cases e : j = k
  · subst e; simp
  · by_cases h : j < k
    · simp [e, h, show j < k + 1 by omega]
    · simp [e, h, show ¬ j < k + 1 by omega]

set_option maxHeartbeats 1000000 in
theorem clone9 (x : Addr) (len cap : Nat) (T : Nat → Int) (S : Nat → ByteArray) (P I : Nat → Int) (w : World) (hl : len ≤ 65536) (hc : Reps w x len T S P I) :
    Calls Trym.prog 9 #[.slice (some x) len cap] w fun e w' => e = .returned (.slice (some ⟨w.heap.size, 0, none⟩) len len) ∧ Grid w' w.heap.size 33 4 len (repF T S P I) ∧ w'.heap.size = w.heap.size + 1 ∧ Below w.heap.size w w' := by
  have hmk := Grid.run_make_grid (P := Trym.prog) 22 33 (.agg #[.int .u64 0, .string ⟨#[]⟩, .int .u64 0, .int .u64 0]) 4 40 Trym.underlying22 info33 .i64 .i64 len (by omega) (by omega)
  have hnn := fun (a : Option Addr) (l c : Nat) (w : World) => Lib.run_eql_slice_nil (P := Trym.prog) w 22 33 a l c 0 0 Trym.underlying22
  have hg0 := Grid.grid_made w (.agg #[.int .u64 0, .string ⟨#[]⟩, .int .u64 0, .int .u64 0]) 4 len 33 (repF (fun _ => 0) (fun _ => ⟨#[]⟩) (fun _ => 0) (fun _ => 0) 0) rfl (fun r hr => by match r, hr with
    | 0, _ => rfl
    | 1, _ => rfl
    | 2, _ => rfl
    | 3, _ => rfl) (by omega)
  go_enter Trym.func9, Trym.ntmps9
  go_wp2
  clear hmk hnn
  go_loopw [4] (fun i wr => ∃ k : Nat, k ≤ len ∧ i = .int .i64 k ∧ Grid wr w.heap.size 33 4 len (fun j r => if j < k then repF T S P I j r else repF (fun _ => 0) (fun _ => ⟨#[]⟩) (fun _ => 0) (fun _ => 0) 0 r) ∧ wr.heap.size = w.heap.size + 1 ∧ Below w.heap.size w wr) (fun i _ => len - (intOf i).toNat)
  case atStart => exact ⟨0, Nat.zero_le _, rfl, hg0.congr (by omega) fun j r _ _ => by simp, by simp, (Below.refl _ _).alloc (Nat.le_refl _) _⟩
  case round =>
    clear hg0
    obtain ⟨k, hk, rfl, hg, hsz, hbel⟩ := hrel
    by_cases hlt : k < len
    · have hR := reps_below hc hbel
      have hc0 := hR.term k hlt
      have hc1 := hR.state k hlt
      have hc2 := hR.lterm k hlt
      have hc3 := hR.lindex k hlt
      have hd0 := hg.cell0 hlt (by omega)
      have hd1 := hg.cell (r := 1) hlt (by omega)
      have hd2 := hg.cell (r := 2) hlt (by omega)
      have hd3 := hg.cell (r := 3) hlt (by omega)
      have hf := hg.frozen
      have HS := fill4 hg (Nat.le_refl _) hsz hbel
      clear hR
      go_wp2
      go_roundw
      case rel => exact ⟨k + 1, by omega, by go_num, HS.1, HS.2.1, HS.2.2⟩
      case measure => simp [intOf]; omega
    · obtain rfl : k = len := by omega
      have HG : Grid wr w.heap.size 33 4 k (repF T S P I) := hg.congr (by omega) fun j r hj _ => by simp [hj]
      clear hg hc
      go_wp2
      go_ret
      exact ⟨rfl, HG, hsz, hbel⟩

theorem clone9_nil (w : World) : Calls Trym.prog 9 #[.slice none 0 0] w fun e w' => e = .returned (.slice none 0 0) ∧ w = w' := by
  have hnn := fun (a : Option Addr) (l c : Nat) (w : World) => Lib.run_eql_slice_nil (P := Trym.prog) w 22 33 a l c 0 0 Trym.underlying22
  go_enter Trym.func9, Trym.ntmps9
  go_wp2
  go_ret
  exact ⟨rfl, rfl⟩

theorem new27 (w : World) : Calls Trym.prog 27 #[] w fun e w' => e = .returned (.map (some w.heap.size)) ∧ w' = w.alloc (.map #[] 0) := by
  have hmm := @run_makeMap Trym.prog
  go_enter Trym.func27, Trym.ntmps27
  go_wp2
  go_ret
  exact ⟨rfl, rfl⟩

/-- The entries of the map of reports: number i under key i, in the order in which they were laid. -/
def mapEs (V : Nat → Value) (n : Nat) : Array MapEntry := ((List.range n).map fun i => { key := .int .u64 i, val := V i, born := i }).toArray
theorem mapEs_succ (V : Nat → Value) (n : Nat) : mapEs V (n + 1) = (mapEs V n).push { key := .int .u64 n, val := V n, born := n } := by
  simp [mapEs, List.range_succ]
theorem mapEs_mem {V : Nat → Value} {n : Nat} {e : MapEntry} (h : e ∈ (mapEs V n).toList) : ∃ i, i < n ∧ e = { key := .int .u64 i, val := V i, born := i } := by
  simp [mapEs] at h
  obtain ⟨i, hi, rfl⟩ := h
  exact ⟨i, hi, rfl⟩

def MapIs (w : World) (M : Nat) (V : Nat → Value) (n : Nat) : Prop := w.heap[M]? = some (.map (mapEs V n) n)

theorem MapIs.drew {w : World} {M : Nat} {V : Nat → Value} {n : Nat} (h : MapIs w M V n) : MapIs w.drew M V n := h

/-- A report as the map's value. -/
def repV (T : Nat → Int) (S : Nat → ByteArray) (P I : Nat → Int) (i : Nat) : Value := .agg #[.int .u64 (T i), .string (S i), .int .u64 (P i), .int .u64 (I i)]

open Go.Maps (Keyed int_keyed keyOf_int_mk) in
theorem run_put {w : World} {M n : Nat} {V : Nat → Value} (h : MapIs w M V n) (hn : n < 18446744073709551616) :
    (Instr.mapUpdate 30 (.map (some M)) (.int .u64 n) (V n)).run Trym.prog w = .ok () (Go.ChangeMaps.setBlock w M (.map (mapEs V (n + 1)) (n + 1))) := by
  have K : Keyed Trym.prog 26 := int_keyed Trym.underlying26
  have hkey : ∀ i : Nat, i < 18446744073709551616 → keyOf Trym.prog 26 (.int .u64 i) = some (.int .u64 i) := fun i hi => keyOf_int_mk Trym.underlying26 (WalkArith.wf_u64 (by omega))
  have hk := hkey n hn
  rcases K.find w hk (mapEs V n).toList (fun e he => by obtain ⟨i, hi, rfl⟩ := mapEs_mem he; exact ⟨_, hkey i (by omega)⟩) with ⟨h1, _⟩ | ⟨j, e, _, h2, h3⟩
  · rw [mapEs_succ]
    unfold MapIs at h
    simp [Instr.mapUpdate, run_underlying Trym.underlying30, MapKept.run_getObj_map h, K.check w _ hk, h1, setObj, Sem.run, h, Go.ChangeMaps.setBlock]
  · obtain ⟨i, hi, rfl⟩ := mapEs_mem (List.mem_of_getElem? h2)
    simp at h3
    omega

/-- What laying one report into the map does to the world. -/
structure Put (M : Nat) (V : Nat → Value) (n : Nat) (w w' : World) : Prop where
  os : w'.os = w.os
  tape : w'.tape = w.tape
  output : w'.output = w.output
  size : w'.heap.size = w.heap.size
  map : MapIs w' M V (n + 1)
  other : ∀ b, b ≠ M → w'.heap[b]? = w.heap[b]?

theorem put_of {w : World} {M n : Nat} {V : Nat → Value} (h : MapIs w M V n) : Put M V n w (Go.ChangeMaps.setBlock w M (.map (mapEs V (n + 1)) (n + 1))) := by
  unfold MapIs at h
  have hlt : M < w.heap.size := by
    rcases Nat.lt_or_ge M w.heap.size with h1 | h1
    · exact h1
    · simp [Array.getElem?_eq_none h1] at h
  refine ⟨rfl, rfl, rfl, by simp [Go.ChangeMaps.setBlock], by simp [MapIs, Go.ChangeMaps.setBlock, hlt], fun b hb => ?_⟩
  simp [Go.ChangeMaps.setBlock, hb.symm]

set_option maxHeartbeats 1000000 in
theorem put28 (M n : Nat) (j : Int) (T : Nat → Int) (S : Nat → ByteArray) (P I : Nat → Int) (w : World) (hn : n ≤ 65536) (hj : j = (n : Int)) (h : MapIs w M (repV T S P I) n) :
    Calls Trym.prog 28 #[.map (some M), .int .u64 j, .int .u64 (T n), .string (S n), .int .u64 (P n), .int .u64 (I n)] w fun e w' => e = .returned (.tuple #[]) ∧ Put M (repV T S P I) n w w' := by
  subst hj
  have hrun := run_put h (by omega)
  have hput := put_of h
  obtain ⟨w1, hw1⟩ : ∃ w1, w1 = Go.ChangeMaps.setBlock w M (.map (mapEs (repV T S P I) (n + 1)) (n + 1)) := ⟨_, rfl⟩
  rw [← hw1] at hrun hput
  clear hw1 h
  have e : repV T S P I n = .agg #[.int .u64 (T n), .string (S n), .int .u64 (P n), .int .u64 (I n)] := rfl
  rw [e] at hrun
  clear e
  go_enter Trym.func28, Trym.ntmps28
  go_wp2
  go_end0
  exact ⟨rfl, hput⟩

theorem mixed : Trym.prog.follows .mixedOrders = true := by kernel_rfl

/-- The state of the loop that lays the reports into the map. -/
structure Laying (w : World) (B M len : Nat) (T : Nat → Int) (S : Nat → ByteArray) (P I : Nat → Int) (k : Nat) (wr : World) : Prop where
  grid : Grid wr B 33 4 len (repF T S P I)
  map : MapIs wr M (repV T S P I) k
  size : wr.heap.size = M + 1
  below : Below M w wr

theorem laying_step {w wr w' : World} {B M len k : Nat} {T : Nat → Int} {S : Nat → ByteArray} {P I : Nat → Int} (h : Laying w B M len T S P I k wr) (hBM : B ≠ M) (hp : Put M (repV T S P I) k wr.drew w') : Laying w B M len T S P I (k + 1) w' :=
  ⟨h.grid.of_block (hp.other B hBM), hp.map, by rw [hp.size]; exact h.size, h.below.trans ⟨hp.os, hp.tape, hp.output, by rw [hp.size]; exact Nat.le_refl _, fun b hb => hp.other b (by omega)⟩⟩

theorem put_cell {w w' : World} {M k : Nat} {V : Nat → Value} (hp : Put M V k w w') (b o : Nat) (hb : b ≠ M) : w'.cell? ⟨b, o, none⟩ = w.cell? ⟨b, o, none⟩ := World.cell?_of_block (w := w) (hp.other b hb)

end Go.Proofs.Qxb6604021aMods.Reps
