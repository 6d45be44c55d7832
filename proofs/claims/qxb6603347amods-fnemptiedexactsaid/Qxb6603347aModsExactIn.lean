import Derived.Test.Qxb6603347aModsEmptyCalls
namespace Go.Proofs.Qxb6603347aMods.Emptied
open Go.RowKit

/-- The lists of lengths and capacities, k of them filled. -/
structure Meas (w : World) (B len : Nat) (L C : Nat → Nat) (k : Nat) (wr : World) : Prop where
  lens : wr.rowIs B 3 len (fun j => .int .i64 (if j < k then ((L j : Nat) : Int) else 0))
  caps : wr.rowIs (B + 1) 3 len (fun j => .int .i64 (if j < k then ((C j : Nat) : Int) else 0))
  size : wr.heap.size = B + 2
  below : Below B w wr

theorem meas_start (w : World) (len : Nat) (L C : Nat → Nat) :
    Meas w w.heap.size len L C 0 ((w.alloc (.cells (madeCells #[.int .i64 0] len) 3)).alloc (.cells (madeCells #[.int .i64 0] len) 3)) := by
  have h1 := (World.rowIs_made w (.int .i64 0) len 3).alloc (.cells (madeCells #[.int .i64 0] len) 3)
  have h2 := World.rowIs_made (w.alloc (.cells (madeCells #[.int .i64 0] len) 3)) (.int .i64 0) len 3
  have e : (w.alloc (.cells (madeCells #[.int .i64 0] len) 3)).heap.size = w.heap.size + 1 := by simp
  rw [e] at h2
  exact ⟨h1.congr fun j _ => by simp, h2.congr fun j _ => by simp, by simp, ((Below.refl _ _).alloc (Nat.le_refl _) _).alloc (by simp) _⟩

theorem meas_step {w wr : World} {B len k : Nat} {L C : Nat → Nat} (h : Meas w B len L C k wr) :
    Meas w B len L C (k + 1) ((wr.setCell ⟨B, k, none⟩ (.int .i64 (L k : Nat))).setCell ⟨B + 1, k, none⟩ (.int .i64 (C k : Nat))) := by
  refine ⟨?_, ?_, ?_, (h.below.setCell (by simp) _).setCell (by simp) _⟩
  · refine ((h.lens.set k (.int .i64 (L k : Nat))).setOther (by simp) _).congr fun j _ => ?_
    by_cases e : j = k
    · subst e; simp
    · by_cases h : j < k
      · simp [e, h, show j < k + 1 by omega]
      · simp [e, h, show ¬ j < k + 1 by omega]
  · refine ((h.caps.setOther (by simp) _).set k (.int .i64 (C k : Nat))).congr fun j _ => ?_
    by_cases e : j = k
    · subst e; simp
    · by_cases h : j < k
      · simp [e, h, show j < k + 1 by omega]
      · simp [e, h, show ¬ j < k + 1 by omega]
  · rw [← h.size]; simp [World.setCell]

theorem outer_of {w wr : World} {x : Addr} {len : Nat} {A : Nat → Option Addr} {L C : Nat → Nat} (hc : Outer w x len A L C) (hb : Below w.heap.size w wr) : Outer wr x len A L C :=
  fun i hi => ⟨(hb.cell (lt_of_cell (hc i hi).1)).trans (hc i hi).1, (hc i hi).2⟩

/-- What the checks read: the lengths, the capacities, the slice that was handed over, what came back. -/
structure Fin (w : World) (B len : Nat) (L C : Nat → Nat) (S : Nat) (sv : Nat → Value) (O oc : Nat) (ov : Nat → Value) (wr : World) : Prop where
  lens : wr.rowIs B 3 len (fun j => .int .i64 (L j : Nat))
  caps : wr.rowIs (B + 1) 3 len (fun j => .int .i64 (C j : Nat))
  s : wr.rowIs S 26 len sv
  out : wr.rowIs O 26 oc ov
  below : Below B w wr

theorem Fin.drewN {w : World} {B len : Nat} {L C : Nat → Nat} {S : Nat} {sv : Nat → Value} {O oc : Nat} {ov : Nat → Value} {wr : World} (h : Fin w B len L C S sv O oc ov wr) (n : Nat) : Fin w B len L C S sv O oc ov (wr.drewN n) :=
  ⟨h.lens, h.caps, h.s, h.out, ⟨h.below.os, h.below.tape, h.below.output, h.below.size, h.below.block⟩⟩

theorem fin_in {w wr w1 w2 : World} {B len n : Nat} {A : Nat → Option Addr} {L C : Nat → Nat} (hM : Meas w B len L C len wr) (hb1 : Below (B + 2) wr w1) (hrow : w2.rowIs (B + 2) 26 len (fun i => if i < n then .slice (A i) 0 (C i) else .slice (A i) (L i) (C i))) (ho : Only (B + 2) w1 w2) :
    Fin w B len L C (B + 2) (fun i => if i < n then .slice (A i) 0 (C i) else .slice (A i) (L i) (C i)) (B + 2) len (fun i => if i < n then .slice (A i) 0 (C i) else .slice (A i) (L i) (C i)) w2 := by
  have hb := hb1.trans (ho.below (Nat.le_refl _))
  exact ⟨(hM.lens.of_block (hb.block _ (by omega))).congr fun j hj => by simp [hj], (hM.caps.of_block (hb.block _ (by omega))).congr fun j hj => by simp [hj], hrow, hrow, hM.below.trans (hb.mono (by omega))⟩

theorem cell_other {w : World} {a p : Addr} {v u : Value} (h : w.cell? a = some v) (hne : a.block ≠ p.block) : (w.setCell p u).cell? a = some v := by
  rw [← h]
  exact World.cell?_of_block (w := w) (Below.heap_setCell _ _ _ _ hne)

set_option maxRecDepth 20000 in
set_option maxHeartbeats 2000000 in
theorem exact_in (x : Addr) (len cap n : Nat) (A : Nat → Option Addr) (L C : Nat → Nat) (w : World) (hm : len ≤ 9223372036854775807) (hC : ∀ i, i < len → C i ≤ 9223372036854775807) (hc : Outer w x len A L C) (hn : n ≤ 65536) (hnl : n ≤ len) :
    Calls Trym.prog 5 #[.slice (some x) len cap, .int .i64 n] w fun e w' => e = .returned (.bool true) ∧ Below w.heap.size w w' := by
  have hb11 := bytes11 x len cap A L C n w hm hc
  have hf12 := fits12 x len cap A L C w hm hc
  go_enter Trym.func5, Trym.ntmps5
  go_wp2_with fail
  refine hb11.mono ?_
  rintro e w' ⟨⟨b, rfl, -⟩, rfl⟩
  cases b with
  | false =>
    go_wp2_with fail
    go_ret
    exact ⟨rfl, Below.refl _ _⟩
  | true =>
  go_wp2_with fail
  refine hf12.mono ?_
  rintro e w' ⟨⟨b, rfl, hb⟩, rfl⟩
  cases b with
  | false =>
    go_wp2_with fail
    go_ret
    exact ⟨rfl, Below.refl _ _⟩
  | true =>
  have hl := hb rfl
  clear hb11 hf12 hb hm
  have hmk := run_make_row' (P := Trym.prog) 26 3 (.int .i64 0) 8 Trym.underlying26 info3 rfl .i64 .i64 len (by omega) (by omega)
  go_wp2_with fail
  clear hmk
  go_loopw [7] (fun i wr => ∃ k : Nat, k ≤ len ∧ i = .int .i64 k ∧ Meas w w.heap.size len L C k wr) (fun i _ => len - (intOf i).toNat)
  case atStart => exact ⟨0, Nat.zero_le _, rfl, meas_start _ _ _ _⟩
  case round =>
    obtain ⟨k, hk, rfl, hM⟩ := hrel
    by_cases hlt : k < len
    · have hcx := ((outer_of hc hM.below) k hlt).1
      have hne : (x.add k).block ≠ w.heap.size := by have := lt_of_cell (hc k hlt).1; omega
      have hcx2 : ∀ u, (wr.setCell ⟨w.heap.size, k, none⟩ u).cell? (x.add k) = some (.slice (A k) (L k) (C k)) := fun u => cell_other hcx hne
      have hcl := hM.lens.cell hlt
      have hfl := hM.lens.frozen k
      have hcc := hM.caps.cell hlt
      have hfc := hM.caps.frozen k
      have HS := meas_step hM
      have hCk := hC k hlt
      have hLk := (hc k hlt).2
      clear hM hne
      go_wp2_with fail
      go_roundw
      case rel => exact ⟨k + 1, by omega, by go_num, HS⟩
      case measure => simp [intOf]; omega
    · obtain rfl : k = len := by omega
      have hO := outer_of hc hM.below
      have hcp := copied (w.heap.size + 2) x k cap A L C wr hM.size hl hO
      go_wp2_with (go_at_call 13; refine hcp.mono ?_; rintro e w1 ⟨rfl, hrow1, hsz1, hbel1⟩)
      have hem := emptied_in (w.heap.size + 2) k k n A L C w1 hl hnl hrow1
      clear hO hcp hsz1 hrow1 hc
      refine hem.mono ?_
      rintro e w2 ⟨rfl, hrow2, honly⟩
      have hF := fin_in hM hbel1 hrow2 honly
      clear hM hbel1 hrow2 honly hem
      go_wp2_with fail
      clear wr
      go_loopw [9] (fun i wr => ∃ m : Nat, m ≤ n ∧ i = .int .i64 m ∧ Fin w w.heap.size k L C (w.heap.size + 2) (fun i => if i < n then .slice (A i) 0 (C i) else .slice (A i) (L i) (C i)) (w.heap.size + 2) k (fun i => if i < n then .slice (A i) 0 (C i) else .slice (A i) (L i) (C i)) wr) (fun i _ => n - (intOf i).toNat)
      case atStart => exact ⟨0, Nat.zero_le _, rfl, hF⟩
      case round =>
        clear hF
        obtain ⟨m, hm, rfl, hF⟩ := hrel
        by_cases hlt2 : m < n
        · have ho : wr.cell? ⟨w.heap.size + 2, m, none⟩ = some (.slice (A m) 0 (C m)) := by have := hF.out.cell (i := m) (by omega); simpa [hlt2] using this
          have hca := hF.caps.cell (i := m) (by omega)
          have hmk : (m : Int) < (k : Int) := by omega
          have hCm := hC m (by omega)
          go_wp2_with fail
          go_quiet (fail)
          go_wp2_with fail
          go_roundw
          case rel => exact ⟨m + 1, by omega, by go_num, hF.drewN _⟩
          case measure => simp [intOf]; omega
        · obtain rfl : m = n := by omega
          go_wp2_with fail
          clear hlt hlt2 hm
          go_loopw [10] (fun i wq => ∃ q : Nat, q ≤ k ∧ i = .int .i64 q ∧ Fin w w.heap.size k L C (w.heap.size + 2) (fun i => if i < m then .slice (A i) 0 (C i) else .slice (A i) (L i) (C i)) (w.heap.size + 2) k (fun i => if i < m then .slice (A i) 0 (C i) else .slice (A i) (L i) (C i)) wq) (fun i _ => k - (intOf i).toNat)
          case atStart => exact ⟨0, Nat.zero_le _, rfl, hF⟩
          case round =>
            clear hF
            obtain ⟨q, hq, rfl, hF⟩ := hrel
            by_cases hlt3 : q < k
            · have hca := hF.caps.cell (i := q) hlt3
              have hle := hF.lens.cell (i := q) hlt3
              have hqk : (q : Int) < (k : Int) := by omega
              have hCq := hC q (by omega)
              by_cases hqm : q < m
              · have ho : wr.cell? ⟨w.heap.size + 2, q, none⟩ = some (.slice (A q) 0 (C q)) := by have := hF.out.cell (i := q) (by omega); simpa [hqm] using this
                have hd : ((C q : Int) != (C q : Int)) = false := by simp
                go_wp2_with fail
                go_quiet (fail)
                go_wp2_with fail
                go_roundw
                case rel => exact ⟨q + 1, by omega, by go_num, hF.drewN _⟩
                case measure => simp [intOf]; omega
              · have ho : wr.cell? ⟨w.heap.size + 2, q, none⟩ = some (.slice (A q) (L q) (C q)) := by have := hF.out.cell (i := q) (by omega); simpa [hqm] using this
                go_wp2_with fail
                go_quiet (fail)
                go_wp2_with fail
                go_roundw
                case rel => exact ⟨q + 1, by omega, by go_num, hF.drewN _⟩
                case measure => simp [intOf]; omega
            · have hb := hF.below
              clear hF
              go_wp2_with fail
              go_ret
              exact ⟨rfl, hb⟩
end Go.Proofs.Qxb6603347aMods.Emptied
