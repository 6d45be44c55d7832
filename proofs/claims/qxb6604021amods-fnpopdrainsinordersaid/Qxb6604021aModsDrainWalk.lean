import Derived.Test.Qxb6604021aModsRecBuild
import Derived.Test.Qxb6604021aModsRecPop2
import Derived.Test.Qxb6604021aModsRecSame
namespace Go.Proofs.Qxb6604021aMods.Recs
open Go.RowKit
open Grid (Grid)
open Heap (Rec cnt IsHeap upd swap Popped Drained)

/-! The same contracts, the new block's number by a name of its own. -/
theorem cloned (B : Nat) (x : Addr) (len cap : Nat) (R : Nat → Rec) (w : World) (hB : w.heap.size = B) (hl : len ≤ 4096) (hc : Recs w x len R) :
    Calls Trym.prog 19 #[.slice (some x) len cap] w fun e w' => e = .returned (.slice (some ⟨B, 0, none⟩) len len) ∧ Grid w' B 57 3 len (recF R) ∧ w'.heap.size = B + 1 ∧ Below B w w' := by
  subst hB
  exact clone19 x len cap R w hl hc
theorem built (B : Nat) (x : Addr) (len cap : Nat) (R : Nat → Rec) (w : World) (hB : w.heap.size = B) (hl : len ≤ 4096) (hc : Recs w x len R) :
    Calls Trym.prog 20 #[.slice (some x) len cap] w fun e w' => e = .returned (.slice (some ⟨B, 0, none⟩) len len) ∧ Grid w' B 51 3 len (recF R) ∧ Below B w w' := by
  subst hB
  exact build20 x len cap R w hl hc

/-- The state of the draining loop. -/
structure Draining (w : World) (Q n : Nat) (R0 : Nat → Rec) (k : Nat) (out R : Nat → Rec) (wr : World) : Prop where
  recs : Grid wr w.heap.size 57 3 n (recF R0)
  heap : Grid wr (w.heap.size + 1) 51 3 n (recF R)
  ptr : wr.rowIs Q 47 1 (fun _ => .slice (some ⟨w.heap.size + 1, 0, none⟩) (n - k) n)
  outs : Grid wr (Q + 1) 57 3 n (recF out)
  below : Below w.heap.size w wr
  drained : Drained R0 n k out R

theorem draining_step {w wr w1 w2 : World} {Q n k m : Nat} {R0 out R R' : Nat → Rec} (h : Draining w Q n R0 k out R wr) (hQ : w.heap.size + 1 < Q) (hk : k < n) (hm : n - k = m + 1) (hp : PopLeft Q (w.heap.size + 1) m n R R' wr w1) (hb : Below w1.heap.size w1 w2) :
    Draining w Q n R0 (k + 1) (upd out k (R 0)) R' (st3 w2 (Q + 1) k (R 0)) := by
  have hl : Q + 1 < wr.heap.size := h.outs.lt
  have hs := hp.rest.size
  have ho : ∀ b, b < wr.heap.size → b ≠ w.heap.size + 1 → b ≠ Q → w2.heap[b]? = wr.heap[b]? := fun b h1 h2 h3 => (hb.block b (by omega)).trans (hp.rest.other b h1 h2 h3)
  have so : ∀ b, b ≠ Q + 1 → (st3 w2 (Q + 1) k (R 0)).heap[b]? = w2.heap[b]? := fun b hb => st3_other _ _ _ _ _ hb
  have hg2 : Grid w2 (Q + 1) 57 3 n (recF out) := h.outs.of_block (ho _ hl (by omega) (by omega))
  refine ⟨?_, ?_, ?_, st3_grid hg2 k (R 0), ?_, Heap.drained_step h.drained hk hm hp.popped⟩
  · exact h.recs.of_block ((so _ (by omega)).trans (ho _ (by omega) (by omega) (by omega)))
  · exact hp.grid.of_block ((so _ (by omega)).trans (hb.block _ (by omega)))
  · have := World.rowIs.of_block hp.ptr ((so Q (by omega)).trans (hb.block _ (by omega)))
    rw [show n - (k + 1) = m from by omega]
    exact this
  · have sr := st3_rest w2 (Q + 1) k (R 0)
    refine h.below.trans ⟨?_, ?_, ?_, ?_, fun b hb' => ?_⟩
    · rw [sr.1, hb.os, hp.rest.os]
    · rw [sr.2.1, hb.tape, hp.rest.tape]
    · rw [sr.2.2, hb.output, hp.rest.output]
    · rw [st3_size]; have := hb.size; omega
    · rw [so b (by omega)]
      exact ho b (by omega) (by omega) (by omega)

theorem draining_start {w w2 : World} {n : Nat} {R : Nat → Rec} (hg1 : Grid w2 w.heap.size 57 3 n (recF R)) (hg2 : Grid w2 (w.heap.size + 1) 51 3 n (recF R)) (hb : Below w.heap.size w w2) (hH : IsHeap R n) :
    Draining w w2.heap.size n R 0 zeroR R ((w2.alloc (.cells #[.slice (some ⟨w.heap.size + 1, 0, none⟩) n n] 47)).alloc (.cells (madeCells #[.int .i64 0, .int .u32 0, .int .u32 0] (n * 3)) 57)) := by
  have e : (w2.alloc (.cells #[.slice (some ⟨w.heap.size + 1, 0, none⟩) n n] 47)).heap.size = w2.heap.size + 1 := by simp
  have h1 : (w2.alloc (.cells #[.slice (some ⟨w.heap.size + 1, 0, none⟩) n n] 47)).rowIs w2.heap.size 47 1 (fun _ => .slice (some ⟨w.heap.size + 1, 0, none⟩) (n - 0) n) :=
    World.rowIs_alloc w2 #[.slice (some ⟨w.heap.size + 1, 0, none⟩) n n] 47 _ fun i hi => by
      match i, hi with
      | 0, _ => rfl
  have h2 := made3 (w2.alloc (.cells #[.slice (some ⟨w.heap.size + 1, 0, none⟩) n n] 47)) n 57
  rw [e] at h2
  exact ⟨(hg1.alloc _).alloc _, (hg2.alloc _).alloc _, h1.alloc _, h2, (hb.alloc hb.size _).alloc (by have := hb.size; simp; omega) _, Heap.drained_start hH _⟩

theorem drained_all {R0 out R : Nat → Rec} {n : Nat} (h : Drained R0 n n out R) : ∀ r, cnt out r n = cnt R0 r n := fun r => by
  have := h.perm r
  rw [Nat.sub_self] at this
  simpa [cnt] using this

set_option maxRecDepth 20000 in
set_option maxHeartbeats 4000000 in
theorem drains (x : Addr) (n cap : Nat) (R : Nat → Rec) (w : World) (hn : n ≤ 4096) (hc : Recs w x n R) :
    Calls Trym.prog 6 #[.slice (some x) n cap] w fun e w' => e = .returned (.bool true) ∧ Below w.heap.size w w' := by
  have h18 := heap18_told x n cap R w hn hc
  go_enter Trym.func6, Trym.ntmps6
  go_wp2_with fail
  refine (bytes25 _ _ _ _ hn).mono ?_
  rintro e w' ⟨rfl, rfl⟩
  go_wp2_with fail
  refine h18.mono ?_
  clear h18
  rintro e w0 ⟨⟨b, rfl, hb⟩, hK⟩
  have hbl0 := hK.below w.heap.size
  cases b with
  | false =>
    go_wp2_with fail
    go_ret
    exact ⟨rfl, hbl0⟩
  | true =>
  have hH := hb rfl
  have hsz0 : w0.heap.size = w.heap.size := by rw [hK.heap]
  have hcl := cloned w.heap.size x n cap R w0 hsz0 hn (recs_below hc hbl0)
  clear hb hc hsz0 hK
  go_wp2_with fail
  refine hcl.mono ?_
  clear hcl
  rintro e w1 ⟨rfl, hg1, hs1, hb1⟩
  have hbl1 := hbl0.trans hb1
  have hbd := built (w.heap.size + 1) ⟨w.heap.size, 0, none⟩ n n R w1 hs1 hn (recs_of_grid hg1 (Nat.le_refl _))
  clear hbl0 hb1
  go_wp2_with fail
  refine hbd.mono ?_
  clear hbd
  rintro e w2 ⟨rfl, hg2, hb2⟩
  have hbl2 := hbl1.trans (hb2.mono (by omega))
  have hg1' := hg1.below hb2 (by omega)
  have hlt2 := hg2.lt
  clear hbl1 hb2 hg1 hs1
  have hmk := Grid.run_make_grid (P := Trym.prog) 43 57 (.agg #[.int .i64 0, .int .u32 0, .int .u32 0]) 3 16 Trym.underlying43 info57 .i64 .i64 n (by omega) (by omega)
  have hD := draining_start hg1' hg2 hbl2 hH
  clear hg1' hg2 hbl2 hH
  go_wp2_with fail
  clear hmk
  obtain ⟨Q, hQ⟩ : ∃ Q, Q = w2.heap.size := ⟨_, rfl⟩
  rw [← hQ] at hD hlt2 ⊢
  clear hQ
  generalize (w2.alloc (.cells #[.slice (some ⟨w.heap.size + 1, 0, none⟩) n n] 47)).alloc (.cells (madeCells #[.int .i64 0, .int .u32 0, .int .u32 0] (n * 3)) 57) = w3 at *
  go_loopw [5] (fun i wr => ∃ (k : Nat) (out Rk : Nat → Rec), k ≤ n ∧ i = .int .i64 k ∧ Draining w Q n R k out Rk wr) (fun i _ => n - (intOf i).toNat)
  case atStart => exact ⟨0, _, _, Nat.zero_le _, rfl, hD⟩
  case round =>
    clear hD
    obtain ⟨k, out, Rk, hk, rfl, hD⟩ := hrel
    by_cases hlt : k < n
    · obtain ⟨m, hm⟩ : ∃ m, n - k = m + 1 := ⟨n - k - 1, by omega⟩
      have hptr := hD.ptr
      have hheap := hD.drained.heap
      rw [hm] at hptr hheap
      have hpop := pop21 Q (w.heap.size + 1) m n Rk wr (by omega) (by omega) hD.heap hptr (by omega) hheap
      have HD : Hid (Draining w Q n R k out Rk wr) := hD
      have HM : Hid (n - k = m + 1) := hm
      clear hD hptr hheap hm
      go_wp2_with fail
      refine hpop.mono ?_
      clear hpop
      rintro e w4 ⟨R', rfl, hL⟩
      go_wp2_with fail
      refine (fields (Rk 0) _).mono ?_
      rintro e w5 ⟨rfl, hb5, hs5⟩
      have hb6 : Below w4.heap.size w4 w5 := ((Below.refl _ _).alloc (Nat.le_refl _) _).trans (hb5.mono (by simp))
      have HS := draining_step HD.out hlt2 hlt HM.out hL hb6
      have hg5 : Grid w5 (Q + 1) 57 3 n (recF out) := HD.out.outs.of_block ((hb6.block _ (by have := hL.rest.size; have := HD.out.outs.lt; omega)).trans (hL.rest.other _ HD.out.outs.lt (by omega) (by omega)))
      have hd0 := hg5.cell0 hlt (by omega)
      have hd1 := hg5.cell (r := 1) hlt (by omega)
      have hd2 := hg5.cell (r := 2) hlt (by omega)
      have hf := hg5.frozen
      clear hg5 hb5 hb6 hs5 hL
      go_wp2_with fail
      go_roundw
      case rel => exact ⟨k + 1, _, _, by omega, by go_num, HS⟩
      case measure => simp [intOf]; omega
    · obtain rfl : k = n := by omega
      have p0 : wr.cell? ⟨Q, 0, none⟩ = some (.slice (some ⟨w.heap.size + 1, 0, none⟩) 0 k) := by
        have := hD.ptr.cell (i := 0) (by omega)
        rw [Nat.sub_self] at this
        exact this
      have hsrt := hD.drained.sorted
      have hgo := hD.outs
      have hsame := fun w4 (hb4 : Kept wr w4) => same24 ⟨Q + 1, 0, none⟩ ⟨w.heap.size, 0, none⟩ k k k out R w4 hn (recs_of_grid (hD.outs.of_block (by rw [hb4.heap])) (Nat.le_refl _)) (recs_of_grid (hD.recs.of_block (by rw [hb4.heap])) (Nat.le_refl _)) (drained_all hD.drained)
      have hbl := hD.below
      clear hD hlt hk
      have HA : Hid (∀ w4, Kept wr w4 → Calls Trym.prog 24 #[.slice (some ⟨Q + 1, 0, none⟩) k k, .slice (some ⟨w.heap.size, 0, none⟩) k k] w4 fun e w' => e = .returned (.bool true) ∧ Below w4.heap.size w4 w') := hsame
      clear hsame
      go_wp2_with fail
      clear p0
      obtain ⟨wo, hwo⟩ : ∃ wo : World, wo = wr := ⟨_, rfl⟩
      rw [← hwo] at HA hbl hgo
      go_loopw [10] (fun i wq => ∃ q : Nat, 1 ≤ q ∧ i = .int .i64 q ∧ Kept wo wq) (fun i _ => k - (intOf i).toNat)
      case atStart => exact ⟨1, Nat.le_refl _, rfl, by rw [← hwo]; exact Kept.refl _⟩
      case round =>
        clear hwo
        obtain ⟨q, hq, rfl, hK⟩ := hrel
        by_cases hql : q < k
        · obtain ⟨p, rfl⟩ : ∃ p, q = p + 1 := ⟨q - 1, by omega⟩
          have hc1 : wr.cell? ⟨Q + 1, (p + 1) * 3, none⟩ = some (.int .i64 (out (p + 1)).1) := (hK.cell _).trans (hgo.cell0 hql (by omega))
          have hc0 : wr.cell? ⟨Q + 1, p * 3, none⟩ = some (.int .i64 (out p).1) := (hK.cell _).trans (hgo.cell0 (by omega) (by omega))
          have hle := hsrt p hql
          have hq' : (p : Int) + 1 < (k : Int) := by omega
          have HK : Hid (Kept wo wr) := hK
          clear hK
          go_wp2_with fail
          go_quiet (fail)
          go_wp2_with fail
          go_roundw
          case rel => exact ⟨p + 1 + 1, by omega, by go_num, HK.out.drewN _⟩
          case measure => simp [intOf]; omega
        · have hsame := HA.out wr hK
          have hbl' := hbl.trans (hK.below _)
          have hsz := hbl'.size
          clear hK
          go_wp2_with fail
          refine hsame.mono ?_
          rintro e w6 ⟨rfl, hb6⟩
          have hbl6 := hbl'.trans (hb6.mono hsz)
          clear hsame hb6
          go_wp2_with fail
          go_ret
          exact ⟨rfl, hbl6⟩

set_option maxRecDepth 20000 in
set_option maxHeartbeats 1000000 in
theorem drains_long (a : Option Addr) (n cap : Nat) (w : World) (hn : 4096 < n) (hn2 : n ≤ 9223372036854775807) :
    Calls Trym.prog 6 #[.slice a n cap] w fun e w' => e = .returned (.bool true) ∧ Below w.heap.size w w' := by
  go_enter Trym.func6, Trym.ntmps6
  go_wp2_with fail
  refine (bytes25_any _ _ _ _ hn2).mono ?_
  rintro e w' ⟨⟨b, rfl, -⟩, rfl⟩
  cases b with
  | false =>
    go_wp2_with fail
    go_ret
    exact ⟨rfl, Below.refl _ _⟩
  | true =>
  go_wp2_with fail
  go_ret
  exact ⟨rfl, Below.refl _ _⟩

set_option maxRecDepth 20000 in
set_option maxHeartbeats 1000000 in
theorem drains_nil (w : World) : Calls Trym.prog 6 #[.slice none 0 0] w fun e w' => e = .returned (.bool true) ∧ Below w.heap.size w w' := by
  have hmk := Grid.run_make_grid (P := Trym.prog) 43 57 (.agg #[.int .i64 0, .int .u32 0, .int .u32 0]) 3 16 Trym.underlying43 info57 .i64 .i64 0 (by omega) (by omega)
  simp only [Int.natCast_zero] at hmk
  go_enter Trym.func6, Trym.ntmps6
  go_wp2_with fail
  refine (bytes25 _ _ _ _ (by omega)).mono ?_
  rintro e w' ⟨rfl, rfl⟩
  go_wp2_with fail
  refine (heap18_nil _).mono ?_
  rintro e w' ⟨rfl, rfl⟩
  go_wp2_with fail
  refine (clone19_nil _).mono ?_
  rintro e w' ⟨rfl, rfl⟩
  go_wp2_with fail
  refine (build20_nil _).mono ?_
  rintro e w2 ⟨rfl, _, hb2⟩
  have hz := hb2.size
  go_wp2_with fail
  refine wp_loop_rounds 1 ?_
  rw [rounds_succ]
  go_wp2_with fail
  refine wp_loop_rounds 1 ?_
  rw [rounds_succ]
  go_wp2_with fail
  refine (same24_nil _ _).mono ?_
  rintro e w3 ⟨rfl, hb3⟩
  have hb := ((hb2.alloc hz (.cells #[.slice (some ⟨w.heap.size, 0, none⟩) 0 0] 47)).alloc (by simp; omega) (.cells (madeCells #[.int .i64 0, .int .u32 0, .int .u32 0] (0 * 3)) 57)).trans (hb3.mono (by simp; omega))
  clear hb2 hb3 hmk
  go_wp2_with fail
  go_ret
  exact ⟨rfl, hb⟩
end Go.Proofs.Qxb6604021aMods.Recs
