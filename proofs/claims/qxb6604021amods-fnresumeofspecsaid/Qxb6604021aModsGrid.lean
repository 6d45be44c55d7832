import Derived.Test.Qxb6604021aModsRows
import Derived.WalkKit
import Derived.ProofKit
import Derived.Deep.OwnRows
namespace Go.Proofs.Qxb6604021aMods.Grid
open Go.RowKit

theorem lt_of_cell {w : World} {a : Addr} {v : Value} (h : w.cell? a = some v) : a.block < w.heap.size := by
  rcases Nat.lt_or_ge a.block w.heap.size with h1 | h1
  · exact h1
  · simp [World.cell?, Array.getElem?_eq_none h1] at h

/-- BLOCK b IS A ROW OF n ELEMENTS OF s CELLS EACH: cell r of element i holds 'f i r'. -/
def Grid (w : World) (b t s n : Nat) (f : Nat → Nat → Value) : Prop := w.rowIs b t (n * s) (fun j => f (j / s) (j % s))

theorem Grid.cell {w : World} {b t s n : Nat} {f : Nat → Nat → Value} (h : Grid w b t s n f) {i r : Nat} (hi : i < n) (hr : r < s) : w.cell? ⟨b, i * s + r, none⟩ = some (f i r) := by
  have hlt : i * s + r < n * s := by
    have : (i + 1) * s ≤ n * s := Nat.mul_le_mul_right _ hi
    rw [Nat.add_mul] at this
    omega
  have := World.rowIs.cell h hlt
  rw [this]
  have e1 : (i * s + r) / s = i := by rw [Nat.mul_comm, Nat.mul_add_div (by omega), Nat.div_eq_of_lt hr]; rfl
  have e2 : (i * s + r) % s = r := by rw [Nat.mul_comm, Nat.mul_add_mod, Nat.mod_eq_of_lt hr]
  simp only [e1, e2]

theorem Grid.cell0 {w : World} {b t s n : Nat} {f : Nat → Nat → Value} (h : Grid w b t s n f) {i : Nat} (hi : i < n) (hs : 0 < s) : w.cell? ⟨b, i * s, none⟩ = some (f i 0) := h.cell hi hs

theorem Grid.frozen {w : World} {b t s n : Nat} {f : Nat → Nat → Value} (h : Grid w b t s n f) (o : Nat) : w.frozen? ⟨b, o, none⟩ = false := World.rowIs.frozen h o
theorem Grid.lt {w : World} {b t s n : Nat} {f : Nat → Nat → Value} (h : Grid w b t s n f) : b < w.heap.size := World.rowIs.lt h
theorem Grid.of_block {w w' : World} {b t s n : Nat} {f : Nat → Nat → Value} (h : Grid w b t s n f) (e : w'.heap[b]? = w.heap[b]?) : Grid w' b t s n f := World.rowIs.of_block h e
theorem Grid.alloc {w : World} {b t s n : Nat} {f : Nat → Nat → Value} (h : Grid w b t s n f) (o : Obj) : Grid (w.alloc o) b t s n f := World.rowIs.alloc h o
theorem Grid.below {w w' : World} {b t s n B : Nat} {f : Nat → Nat → Value} (h : Grid w b t s n f) (hb : Below B w w') (hlt : b < B) : Grid w' b t s n f := h.of_block (hb.block b hlt)
theorem Grid.setOther {w : World} {b t s n : Nat} {f : Nat → Nat → Value} (h : Grid w b t s n f) {a : Addr} (ha : b ≠ a.block) (v : Value) : Grid (w.setCell a v) b t s n f := World.rowIs.setOther h ha v

theorem Grid.congr {w : World} {b t s n : Nat} {f g : Nat → Nat → Value} (h : Grid w b t s n f) (hs : 0 < s) (e : ∀ i r, i < n → r < s → f i r = g i r) : Grid w b t s n g := by
  refine World.rowIs.congr h fun j hj => ?_
  exact e _ _ (Nat.div_lt_of_lt_mul (by rw [Nat.mul_comm]; exact hj)) (Nat.mod_lt _ hs)

theorem Grid.shrink {w : World} {b t s n m : Nat} {f g : Nat → Nat → Value} (h : Grid w b t s n f) (hs : 0 < s) (hm : m = n) (e : ∀ i r, i < n → r < s → f i r = g i r) : Grid w b t s m g := by
  subst hm
  exact h.congr hs e

/-- A store of a whole element of three cells. -/
theorem Grid.set3 {w : World} {b t n : Nat} {f : Nat → Nat → Value} (h : Grid w b t 3 n f) (i : Nat) (v : Nat → Value) :
    Grid (((w.setCell ⟨b, i * 3, none⟩ (v 0)).setCell ⟨b, i * 3 + 1, none⟩ (v 1)).setCell ⟨b, i * 3 + 2, none⟩ (v 2)) b t 3 n (fun j r => if j = i then v r else f j r) := by
  refine World.rowIs.congr (((World.rowIs.set h (i * 3) (v 0)).set (i * 3 + 1) (v 1)).set (i * 3 + 2) (v 2)) fun j _ => ?_
  show _ = if j / 3 = i then v (j % 3) else f (j / 3) (j % 3)
  by_cases e2 : j = i * 3 + 2
  · have h1 : j / 3 = i := by omega
    have h2 : j % 3 = 2 := by omega
    rw [if_pos e2, if_pos h1, h2]
  rw [if_neg e2]
  by_cases e1 : j = i * 3 + 1
  · have h1 : j / 3 = i := by omega
    have h2 : j % 3 = 1 := by omega
    rw [if_pos e1, if_pos h1, h2]
  rw [if_neg e1]
  by_cases e0 : j = i * 3
  · have h1 : j / 3 = i := by omega
    have h2 : j % 3 = 0 := by omega
    rw [if_pos e0, if_pos h1, h2]
  rw [if_neg e0, if_neg (by omega)]

/-- A store of a whole element of four cells. -/
theorem Grid.set4 {w : World} {b t n : Nat} {f : Nat → Nat → Value} (h : Grid w b t 4 n f) (i : Nat) (v : Nat → Value) :
    Grid ((((w.setCell ⟨b, i * 4, none⟩ (v 0)).setCell ⟨b, i * 4 + 1, none⟩ (v 1)).setCell ⟨b, i * 4 + 2, none⟩ (v 2)).setCell ⟨b, i * 4 + 3, none⟩ (v 3)) b t 4 n (fun j r => if j = i then v r else f j r) := by
  refine World.rowIs.congr ((((World.rowIs.set h (i * 4) (v 0)).set (i * 4 + 1) (v 1)).set (i * 4 + 2) (v 2)).set (i * 4 + 3) (v 3)) fun j _ => ?_
  show _ = if j / 4 = i then v (j % 4) else f (j / 4) (j % 4)
  by_cases e3 : j = i * 4 + 3
  · have h1 : j / 4 = i := by omega
    have h2 : j % 4 = 3 := by omega
    rw [if_pos e3, if_pos h1, h2]
  rw [if_neg e3]
  by_cases e2 : j = i * 4 + 2
  · have h1 : j / 4 = i := by omega
    have h2 : j % 4 = 2 := by omega
    rw [if_pos e2, if_pos h1, h2]
  rw [if_neg e2]
  by_cases e1 : j = i * 4 + 1
  · have h1 : j / 4 = i := by omega
    have h2 : j % 4 = 1 := by omega
    rw [if_pos e1, if_pos h1, h2]
  rw [if_neg e1]
  by_cases e0 : j = i * 4
  · have h1 : j / 4 = i := by omega
    have h2 : j % 4 = 0 := by omega
    rw [if_pos e0, if_pos h1, h2]
  rw [if_neg e0, if_neg (by omega)]

/-- 'make([]T, n)', T of several cells: for every world. -/
theorem run_make_grid {P : Program} (t e : TypeId) (z : Value) (size bytes : Nat) (ht : P.underlying t = some (.slice e)) (hinfo : (P.info? e).map (fun i => (i.zero, i.size, i.bytes)) = some (some z, size, bytes))
    (kl kc : IntKind) (n : Nat) (hbytes : bytes * n ≤ 281474976710656) (h63 : n ≤ 9223372036854775807) (w : World) :
    (Instr.makeSlice t (.int kl (n : Int)) (.int kc (n : Int))).run P w = .ok (.slice (some ⟨w.heap.size, 0, none⟩) n n) (w.alloc (.cells (madeCells z.cells (n * size)) e)) := by
  obtain ⟨i, hi, hz, hs, hb⟩ := info_parts hinfo
  have hb' : (i.bytes : Int) * (n : Int) ≤ 281474976710656 := by
    have h : ((i.bytes * n : Nat) : Int) ≤ 281474976710656 := by rw [hb]; omega
    rwa [Int.natCast_mul] at h
  have hr := run_make (P := P) w t e i z ht hi hz kl kc n n (by omega) (Int.le_refl _) hb' (by omega)
  simp only [Int.toNat_natCast, hs] at hr
  exact hr

/-- What make lays, as a grid. -/
theorem grid_made (w : World) (z : Value) (s n t : Nat) (f : Nat → Value) (hz : z.cells.size = s) (hf : ∀ r, r < s → z.cells[r]? = some (f r)) (hs : 0 < s) :
    Grid (w.alloc (.cells (madeCells z.cells (n * s)) t)) w.heap.size t s n (fun _ r => f r) := by
  refine ⟨_, Go.Deep.blk_alloc_new _ _, size_madeCells _ _, fun i hi => ?_⟩
  have h1 : i % s < s := Nat.mod_lt _ hs
  have h2 := hf (i % s) h1
  have h3 : z.cells[i % s]! = f (i % s) := by
    rw [getElem!_def, h2]
  simp only [madeCells, Array.getElem?_map, Array.getElem?_range, hi, if_true, Option.map_some, hz, h3]
end Go.Proofs.Qxb6604021aMods.Grid
