import Derived.Test.Qxb6604021aModsRecBuild
import Derived.Test.Qxb6604021aModsRecPop2
import Derived.Test.Qxb6604021aModsRecSame
namespace Go.Proofs.Qxb6604021aMods.Recs
open Go.RowKit
open Grid (Grid)
open Heap (Rec cnt IsHeap upd swap Popped)

/-! The same contracts, the new block's number by a name of its own. -/
theorem cloned (B : Nat) (x : Addr) (len cap : Nat) (R : Nat → Rec) (w : World) (hB : w.heap.size = B) (hl : len ≤ 4096) (hc : Recs w x len R) :
    Calls Trym.prog 19 #[.slice (some x) len cap] w fun e w' => e = .returned (.slice (some ⟨B, 0, none⟩) len len) ∧ Grid w' B 57 3 len (recF R) ∧ w'.heap.size = B + 1 ∧ Below B w w' := by
  subst hB
  exact clone19 x len cap R w hl hc
theorem built (B : Nat) (x : Addr) (len cap : Nat) (R : Nat → Rec) (w : World) (hB : w.heap.size = B) (hl : len ≤ 4096) (hc : Recs w x len R) :
    Calls Trym.prog 20 #[.slice (some x) len cap] w fun e w' => e = .returned (.slice (some ⟨B, 0, none⟩) len len) ∧ Grid w' B 51 3 len (recF R) ∧ Below B w w' := by
  subst hB
  exact build20 x len cap R w hl hc

/-- Two records compared, for '!='. -/
theorem neq_rec (a : Rec) (w : World) : (binOp .neq 57 (.agg #[.int .i64 a.1, .int .u32 a.2.1, .int .u32 a.2.2]) (.agg #[.int .i64 a.1, .int .u32 a.2.1, .int .u32 a.2.2])).run Trym.prog w = .ok (.bool false) w := by
  simp [go_sem]

theorem cnt_shift (R : Nat → Rec) (r : Rec) (m : Nat) : cnt R r (m + 1) = cnt (fun k => R (k + 1)) r m + if R 0 = r then 1 else 0 := by
  induction m with
  | zero => simp [cnt]
  | succ m ih =>
    rw [show cnt R r (m + 1 + 1) = cnt R r (m + 1) + (if R (m + 1) = r then 1 else 0) from rfl, ih]
    rw [show cnt (fun k => R (k + 1)) r (m + 1) = cnt (fun k => R (k + 1)) r m + (if R (m + 1) = r then 1 else 0) from rfl]
    omega

theorem popped_tail {R R' : Nat → Rec} {m : Nat} (h : Popped R m R') : ∀ r, cnt R' r m = cnt (fun k => R (k + 1)) r m := fun r => by
  have h1 := h.perm r
  rw [cnt_shift] at h1
  omega

/-- What is read behind the pop. -/
structure After (w : World) (Q m : Nat) (R R' : Nat → Rec) (w5 : World) : Prop where
  recs : Grid w5 w.heap.size 57 3 (m + 1) (recF R)
  heap : Grid w5 (w.heap.size + 1) 51 3 (m + 1) (recF R')
  ptr : w5.rowIs Q 47 1 (fun _ => .slice (some ⟨w.heap.size + 1, 0, none⟩) m (m + 1))
  below : Below w.heap.size w w5

theorem after_of {w w2 w4 w5 : World} {m : Nat} {R R' : Nat → Rec} {o : Obj} (hg1 : Grid w2 w.heap.size 57 3 (m + 1) (recF R)) (hlt : w.heap.size + 1 < w2.heap.size) (hb : Below w.heap.size w w2) (hL : PopLeft w2.heap.size (w.heap.size + 1) m (m + 1) R R' (w2.alloc o) w4) (h5 : Below w4.heap.size w4 w5) : After w w2.heap.size m R R' w5 := by
  have hs := hL.rest.size
  simp only [Go.Deep.nblk_alloc] at hs
  have ho : ∀ b, b < w2.heap.size → b ≠ w.heap.size + 1 → w5.heap[b]? = w2.heap[b]? := fun b h1 h2 => by
    rw [h5.block b (by omega), hL.rest.other b (by rw [Go.Deep.nblk_alloc]; omega) h2 (by omega), Below.heap_alloc _ _ _ h1]
  refine ⟨hg1.of_block (ho _ (by omega) (by omega)), hL.grid.of_block (h5.block _ (by omega)), World.rowIs.of_block hL.ptr (h5.block _ (by omega)), hb.trans ⟨?_, ?_, ?_, ?_, fun b hb' => ho b (by omega) (by omega)⟩⟩
  · rw [h5.os, hL.rest.os]; rfl
  · rw [h5.tape, hL.rest.tape]; rfl
  · rw [h5.output, hL.rest.output]; rfl
  · have := h5.size; omega

set_option maxRecDepth 20000 in
set_option maxHeartbeats 4000000 in
theorem popspec (x : Addr) (m cap : Nat) (R : Nat → Rec) (w : World) (hn : m ≤ 4095) (hc : Recs w x (m + 1) R) :
    Calls Trym.prog 5 #[.slice (some x) (m + 1) cap] w fun e w' => e = .returned (.bool true) ∧ Below w.heap.size w w' := by
  have h18 := heap18_told x (m + 1) cap R w (by omega) hc
  go_enter Trym.func5, Trym.ntmps5
  go_wp2_with fail
  refine (bytes17 _ _ _ _ (by omega)).mono ?_
  rintro e w' ⟨rfl, rfl⟩
  go_wp2_with fail
  refine h18.mono ?_
  clear h18
  rintro e w0 ⟨⟨b, rfl, hb⟩, hK⟩
  have hbl0 := hK.below w.heap.size
  cases b with
  | false =>
    go_wp2_with fail
    go_ret
    exact ⟨rfl, hbl0⟩
  | true =>
  have hH := hb rfl
  have hsz0 : w0.heap.size = w.heap.size := by rw [hK.heap]
  have hcl := cloned w.heap.size x (m + 1) cap R w0 hsz0 (by omega) (recs_below hc hbl0)
  clear hb hc hsz0 hK
  go_wp2_with fail
  refine hcl.mono ?_
  clear hcl
  rintro e w1 ⟨rfl, hg1, hs1, hb1⟩
  have hbl1 := hbl0.trans hb1
  have hbd := built (w.heap.size + 1) ⟨w.heap.size, 0, none⟩ (m + 1) (m + 1) R w1 hs1 (by omega) (recs_of_grid hg1 (Nat.le_refl _))
  clear hbl0 hb1
  go_wp2_with fail
  refine hbd.mono ?_
  clear hbd
  rintro e w2 ⟨rfl, hg2, hb2⟩
  have hbl2 := hbl1.trans (hb2.mono (by omega))
  have hg1' := hg1.below hb2 (by omega)
  have hlt2 := hg2.lt
  clear hbl1 hb2 hg1 hs1
  have hrow : (w2.alloc (.cells #[.slice (some ⟨w.heap.size + 1, 0, none⟩) (m + 1) (m + 1)] 47)).rowIs w2.heap.size 47 1 (fun _ => .slice (some ⟨w.heap.size + 1, 0, none⟩) (m + 1) (m + 1)) :=
    World.rowIs_alloc w2 #[.slice (some ⟨w.heap.size + 1, 0, none⟩) (m + 1) (m + 1)] 47 _ fun i hi => by
      match i, hi with
      | 0, _ => rfl
  have hpop := pop21 w2.heap.size (w.heap.size + 1) m (m + 1) R _ hn (Nat.le_refl _) (hg2.alloc _) hrow (by omega) hH
  clear hrow hg2
  go_wp2_with fail
  refine hpop.mono ?_
  clear hpop
  rintro e w4 ⟨R', rfl, hL⟩
  go_wp2_with fail
  refine (fields (R 0) _).mono ?_
  rintro e w5 ⟨rfl, hb5, hs5⟩
  have hb6 : Below w4.heap.size w4 w5 := ((Below.refl _ _).alloc (Nat.le_refl _) _).trans (hb5.mono (by simp))
  have hA := after_of hg1' hlt2 hbl2 hL hb6
  have hP := hL.popped
  clear hg1' hbl2 hL hb5 hb6 hs5
  obtain ⟨Q, hQ⟩ : ∃ Q, Q = w2.heap.size := ⟨_, rfl⟩
  rw [← hQ] at hA hlt2 ⊢
  clear hQ
  have q0 : w5.cell? ⟨Q, 0, none⟩ = some (.slice (some ⟨w.heap.size + 1, 0, none⟩) m (m + 1)) := hA.ptr.cell (i := 0) (by omega)
  have a0 : w5.cell? ⟨w.heap.size, 0, none⟩ = some (.int .i64 (R 0).1) := hA.recs.cell (i := 0) (r := 0) (by omega) (by omega)
  have a1 : w5.cell? ⟨w.heap.size, 1, none⟩ = some (.int .u32 (R 0).2.1) := hA.recs.cell (i := 0) (r := 1) (by omega) (by omega)
  have a2 : w5.cell? ⟨w.heap.size, 2, none⟩ = some (.int .u32 (R 0).2.2) := hA.recs.cell (i := 0) (r := 2) (by omega) (by omega)
  have hneq := neq_rec (R 0)
  have hpl := plain23 (w.heap.size + 1) m (m + 1) R' w5 (by omega) (by omega) hA.heap
  have hrl := hA.recs.lt
  go_wp2_with fail
  refine hpl.mono ?_
  clear hpl q0 a0 a1 a2 hneq
  rintro e w6 ⟨rfl, hg6, hb6⟩
  have hmin := hP.min hH
  have hr6 := hA.recs.below hb6 hrl
  have hT : w.heap.size < w5.heap.size := hrl
  have hbl6 := hA.below.trans (hb6.mono (by omega))
  have htail := popped_tail hP
  have hheap := hP.heap
  have HP : Hid (IsHeap R' m ∧ ∀ r, cnt R' r m = cnt (fun k => R (k + 1)) r m) := ⟨hheap, htail⟩
  clear hA hP hb6 hH htail hheap hrl
  obtain ⟨T, hTe⟩ : ∃ T, T = w5.heap.size := ⟨_, rfl⟩
  rw [← hTe] at hg6 hT ⊢
  clear hTe
  go_wp2_with fail
  go_loop [9] (fun i => ∃ k : Nat, k ≤ m ∧ i = .int .i64 k) (fun i => m - (intOf i).toNat)
  case atStart => exact ⟨0, Nat.zero_le _, rfl⟩
  case round =>
    obtain ⟨k, hk, rfl⟩ := hrel
    by_cases hlt : k < m
    · have hck : w6.cell? ⟨T, k * 3, none⟩ = some (.int .i64 (R' k).1) := hg6.cell0 hlt (by omega)
      have hle := hmin k hlt
      go_wp2_with fail
      go_round
      case rel => exact ⟨k + 1, by omega, by go_num⟩
      case measure => simp [intOf]; omega
    · have h18 := heap18_yes ⟨T, 0, none⟩ m m R' w6 (by omega) (recs_of_grid hg6 (Nat.le_refl _)) HP.out.1
      go_wp2_with fail
      refine h18.mono ?_
      clear h18
      rintro e w7 ⟨rfl, hK⟩
      have hg7 : Grid w7 T 57 3 m (recF R') := hg6.of_block (by rw [hK.heap])
      have hr7 : Grid w7 w.heap.size 57 3 (m + 1) (recF R) := hr6.of_block (by rw [hK.heap])
      have hbl7 := hbl6.trans (hK.below _)
      have hz7 := hbl7.size
      clear hK hg6 hr6 hbl6 hmin
      by_cases hm0 : m = 0
      · subst hm0
        have hs := same24 ⟨T, 0, none⟩ ⟨w.heap.size, 0, none⟩ 0 0 0 R' R' w7 (by omega) (recs_of_grid hg7 (Nat.le_refl _)) ⟨fun i hi => by omega, fun i hi => by omega, fun i hi => by omega⟩ (fun _ => rfl)
        clear hg7 hr7
        go_wp2_with fail
        refine hs.mono ?_
        clear hs
        rintro e w8 ⟨rfl, hb8⟩
        have hbl8 := hbl7.trans (hb8.mono hz7)
        clear hb8 hbl7
        go_wp2_with fail
        go_ret
        exact ⟨rfl, hbl8⟩
      · have hs := same24 ⟨T, 0, none⟩ ⟨w.heap.size, 3, none⟩ m m m R' (fun k => R (k + 1)) w7 (by omega) (recs_of_grid hg7 (Nat.le_refl _)) (recs_of_tail hr7) HP.out.2
        have hm1 : ¬ m + 1 = 1 := by omega
        clear hg7 hr7
        go_wp2_with fail
        refine hs.mono ?_
        clear hs
        rintro e w8 ⟨rfl, hb8⟩
        have hbl8 := hbl7.trans (hb8.mono hz7)
        clear hb8 hbl7
        go_wp2_with fail
        go_ret
        exact ⟨rfl, hbl8⟩

set_option maxRecDepth 20000 in
set_option maxHeartbeats 1000000 in
theorem popspec_long (a : Option Addr) (n cap : Nat) (w : World) (hn : 4096 < n) (hn2 : n ≤ 9223372036854775807) :
    Calls Trym.prog 5 #[.slice a n cap] w fun e w' => e = .returned (.bool true) ∧ Below w.heap.size w w' := by
  go_enter Trym.func5, Trym.ntmps5
  go_wp2_with fail
  refine (bytes17_any _ _ _ _ hn2).mono ?_
  rintro e w' ⟨⟨b, rfl, -⟩, rfl⟩
  cases b with
  | false =>
    go_wp2_with fail
    go_ret
    exact ⟨rfl, Below.refl _ _⟩
  | true =>
  go_wp2_with fail
  go_ret
  exact ⟨rfl, Below.refl _ _⟩

set_option maxRecDepth 20000 in
set_option maxHeartbeats 1000000 in
theorem popspec_empty (a : Option Addr) (cap : Nat) (w : World) : Calls Trym.prog 5 #[.slice a 0 cap] w fun e w' => e = .returned (.bool true) ∧ Below w.heap.size w w' := by
  go_enter Trym.func5, Trym.ntmps5
  go_wp2_with fail
  refine (bytes17 _ _ _ _ (by omega)).mono ?_
  rintro e w' ⟨rfl, rfl⟩
  go_wp2_with fail
  go_ret
  exact ⟨rfl, Below.refl _ _⟩

theorem popspec_nil (w : World) : Calls Trym.prog 5 #[.slice none 0 0] w fun e w' => e = .returned (.bool true) ∧ Below w.heap.size w w' := popspec_empty none 0 w
end Go.Proofs.Qxb6604021aMods.Recs
