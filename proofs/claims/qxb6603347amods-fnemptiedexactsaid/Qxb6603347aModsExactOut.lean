import Derived.Test.Qxb6603347aModsExactIn
namespace Go.Proofs.Qxb6603347aMods.Emptied
open Go.RowKit

theorem fin_out {w wr w1 w2 : World} {B len ncap : Nat} {A : Nat → Option Addr} {L C : Nat → Nat} {ov : Nat → Value} (hM : Meas w B len L C len wr) (hb1 : Below (B + 2) wr w1) (hrow1 : w1.rowIs (B + 2) 26 len (fun i => .slice (A i) (L i) (C i))) (hrow : w2.rowIs (B + 3) 26 ncap ov) (hb2 : Below (B + 3) w1 w2) :
    Fin w B len L C (B + 2) (fun i => .slice (A i) (L i) (C i)) (B + 3) ncap ov w2 := by
  have hb := hb1.trans (hb2.mono (by omega))
  exact ⟨(hM.lens.of_block (hb.block _ (by omega))).congr fun j hj => by simp [hj], (hM.caps.of_block (hb.block _ (by omega))).congr fun j hj => by simp [hj], hrow1.of_block (hb2.block _ (by omega)), hrow, hM.below.trans (hb.mono (by omega))⟩

set_option maxRecDepth 20000 in
set_option maxHeartbeats 2000000 in
theorem exact_out (x : Addr) (len cap n : Nat) (A : Nat → Option Addr) (L C : Nat → Nat) (w : World) (hm : len ≤ 9223372036854775807) (hC : ∀ i, i < len → C i ≤ 9223372036854775807) (hc : Outer w x len A L C) (hn : n ≤ 65536) (hnl : len < n) :
    Calls Trym.prog 5 #[.slice (some x) len cap, .int .i64 n] w fun e w' => e = .returned (.bool true) ∧ Below w.heap.size w w' := by
  have hb11 := bytes11 x len cap A L C n w hm hc
  have hf12 := fits12 x len cap A L C w hm hc
  go_enter Trym.func5, Trym.ntmps5
  go_wp2_with fail
  refine hb11.mono ?_
  rintro e w' ⟨⟨b, rfl, -⟩, rfl⟩
  cases b with
  | false =>
    go_wp2_with fail
    go_ret
    exact ⟨rfl, Below.refl _ _⟩
  | true =>
  go_wp2_with fail
  refine hf12.mono ?_
  rintro e w' ⟨⟨b, rfl, hb⟩, rfl⟩
  cases b with
  | false =>
    go_wp2_with fail
    go_ret
    exact ⟨rfl, Below.refl _ _⟩
  | true =>
  have hl := hb rfl
  clear hb11 hf12 hb hm
  have hmk := run_make_row' (P := Trym.prog) 26 3 (.int .i64 0) 8 Trym.underlying26 info3 rfl .i64 .i64 len (by omega) (by omega)
  go_wp2_with fail
  clear hmk
  go_loopw [7] (fun i wr => ∃ k : Nat, k ≤ len ∧ i = .int .i64 k ∧ Meas w w.heap.size len L C k wr) (fun i _ => len - (intOf i).toNat)
  case atStart => exact ⟨0, Nat.zero_le _, rfl, meas_start _ _ _ _⟩
  case round =>
    obtain ⟨k, hk, rfl, hM⟩ := hrel
    by_cases hlt : k < len
    · have hcx := ((outer_of hc hM.below) k hlt).1
      have hne : (x.add k).block ≠ w.heap.size := by have := lt_of_cell (hc k hlt).1; omega
      have hcx2 : ∀ u, (wr.setCell ⟨w.heap.size, k, none⟩ u).cell? (x.add k) = some (.slice (A k) (L k) (C k)) := fun u => cell_other hcx hne
      have hcl := hM.lens.cell hlt
      have hfl := hM.lens.frozen k
      have hcc := hM.caps.cell hlt
      have hfc := hM.caps.frozen k
      have HS := meas_step hM
      have hCk := hC k hlt
      have hLk := (hc k hlt).2
      clear hM hne
      go_wp2_with fail
      go_roundw
      case rel => exact ⟨k + 1, by omega, by go_num, HS⟩
      case measure => simp [intOf]; omega
    · obtain rfl : k = len := by omega
      have hO := outer_of hc hM.below
      have hcp := copied (w.heap.size + 2) x k cap A L C wr hM.size hl hO
      go_wp2_with (go_at_call 13; refine hcp.mono ?_; rintro e w1 ⟨rfl, hrow1, hsz1, hbel1⟩)
      have hem := emptied_out (w.heap.size + 3) (some ⟨w.heap.size + 2, 0, none⟩) k k n A L C w1 hsz1 hn hnl (fun h => by cases h) (fun b hb j hj => by cases hb; rw [Addr.add_lit, Nat.zero_add]; exact hrow1.cell hj)
      refine hem.mono ?_
      clear hO hcp hc hem
      rintro e w2 ⟨ncap, rfl, hnc, hrow2, -, hbel2⟩
      have hF := fin_out hM hbel1 hrow1 hrow2 hbel2
      clear hM hbel1 hrow1 hrow2 hbel2 hsz1
      go_wp2_with fail
      clear wr
      go_loopw [9] (fun i wr => ∃ m : Nat, m ≤ n ∧ i = .int .i64 m ∧ Fin w w.heap.size k L C (w.heap.size + 2) (fun i => .slice (A i) (L i) (C i)) (w.heap.size + 3) ncap (fun i => if i < k then .slice (A i) 0 (C i) else .slice none 0 0) wr) (fun i _ => n - (intOf i).toNat)
      case atStart => exact ⟨0, Nat.zero_le _, rfl, hF⟩
      case round =>
        clear hF
        obtain ⟨m, hm, rfl, hF⟩ := hrel
        by_cases hlt2 : m < n
        · by_cases hmk : m < k
          · have ho : wr.cell? ⟨w.heap.size + 3, m, none⟩ = some (.slice (A m) 0 (C m)) := by have := hF.out.cell (i := m) (by omega); simpa [hmk] using this
            have hca := hF.caps.cell (i := m) (by omega)
            have hmk' : (m : Int) < (k : Int) := by omega
            have hCm := hC m (by omega)
            go_wp2_with fail
            go_quiet (fail)
            go_wp2_with fail
            go_roundw
            case rel => exact ⟨m + 1, by omega, by go_num, hF.drewN _⟩
            case measure => simp [intOf]; omega
          · have ho : wr.cell? ⟨w.heap.size + 3, m, none⟩ = some (.slice none 0 0) := by have := hF.out.cell (i := m) (by omega); simpa [hmk] using this
            go_wp2_with fail
            go_roundw
            case rel => exact ⟨m + 1, by omega, by go_num, hF⟩
            case measure => simp [intOf]; omega
        · obtain rfl : m = n := by omega
          go_wp2_with fail
          clear hlt hlt2 hm
          go_loopw [10] (fun i wq => ∃ q : Nat, q ≤ k ∧ i = .int .i64 q ∧ Fin w w.heap.size k L C (w.heap.size + 2) (fun i => .slice (A i) (L i) (C i)) (w.heap.size + 3) ncap (fun i => if i < k then .slice (A i) 0 (C i) else .slice none 0 0) wq) (fun i _ => k - (intOf i).toNat)
          case atStart => exact ⟨0, Nat.zero_le _, rfl, hF⟩
          case round =>
            clear hF
            obtain ⟨q, hq, rfl, hF⟩ := hrel
            by_cases hlt3 : q < k
            · have hca := hF.caps.cell (i := q) hlt3
              have hle := hF.lens.cell (i := q) hlt3
              have hqk : (q : Int) < (k : Int) := by omega
              have hCq := hC q (by omega)
              have ho := hF.s.cell (i := q) hlt3
              go_wp2_with fail
              go_quiet (fail)
              go_wp2_with fail
              go_roundw
              case rel => exact ⟨q + 1, by omega, by go_num, hF.drewN _⟩
              case measure => simp [intOf]; omega
            · have hb := hF.below
              clear hF
              go_wp2_with fail
              go_ret
              exact ⟨rfl, hb⟩

set_option maxRecDepth 20000 in
set_option maxHeartbeats 2000000 in
theorem exact_nil0 (w : World) : Calls Trym.prog 5 #[.slice none 0 0, .int .i64 0] w fun e w' => e = .returned (.bool true) ∧ Below w.heap.size w w' := by
  have hmk := run_make_row' (P := Trym.prog) 26 3 (.int .i64 0) 8 Trym.underlying26 info3 rfl .i64 .i64 0 (by omega) (by omega)
  simp only [Int.natCast_zero] at hmk
  go_enter Trym.func5, Trym.ntmps5
  go_wp2_with fail
  refine (bytes11_nil 0 w).mono ?_
  rintro e w' ⟨⟨b, rfl, -⟩, rfl⟩
  cases b with
  | false =>
    go_wp2_with fail
    go_ret
    exact ⟨rfl, Below.refl _ _⟩
  | true =>
  go_wp2_with fail
  refine (fits12_nil w).mono ?_
  rintro e w' ⟨⟨b, rfl, -⟩, rfl⟩
  cases b with
  | false =>
    go_wp2_with fail
    go_ret
    exact ⟨rfl, Below.refl _ _⟩
  | true =>
  go_wp2_with fail
  refine wp_loop_rounds 1 ?_
  rw [rounds_succ]
  go_wp2_with fail
  refine (copy13_nil _).mono ?_
  rintro e w' ⟨rfl, rfl⟩
  go_wp2_with fail
  refine (emptied_nil _).mono ?_
  rintro e w' ⟨rfl, rfl⟩
  go_wp2_with fail
  refine wp_loop_rounds 1 ?_
  rw [rounds_succ]
  go_wp2_with fail
  refine wp_loop_rounds 1 ?_
  rw [rounds_succ]
  go_wp2_with fail
  go_ret
  exact ⟨rfl, ((Below.refl _ _).alloc (Nat.le_refl _) _).alloc (by simp) _⟩

set_option maxRecDepth 20000 in
set_option maxHeartbeats 2000000 in
theorem exact_nil (n : Nat) (w : World) (hn : n ≤ 65536) (h0 : 0 < n) : Calls Trym.prog 5 #[.slice none 0 0, .int .i64 n] w fun e w' => e = .returned (.bool true) ∧ Below w.heap.size w w' := by
  have hmk := run_make_row' (P := Trym.prog) 26 3 (.int .i64 0) 8 Trym.underlying26 info3 rfl .i64 .i64 0 (by omega) (by omega)
  simp only [Int.natCast_zero] at hmk
  go_enter Trym.func5, Trym.ntmps5
  go_wp2_with fail
  refine (bytes11_nil n w).mono ?_
  rintro e w' ⟨⟨b, rfl, -⟩, rfl⟩
  cases b with
  | false =>
    go_wp2_with fail
    go_ret
    exact ⟨rfl, Below.refl _ _⟩
  | true =>
  go_wp2_with fail
  refine (fits12_nil w).mono ?_
  rintro e w' ⟨⟨b, rfl, -⟩, rfl⟩
  cases b with
  | false =>
    go_wp2_with fail
    go_ret
    exact ⟨rfl, Below.refl _ _⟩
  | true =>
  go_wp2_with fail
  refine wp_loop_rounds 1 ?_
  rw [rounds_succ]
  go_wp2_with fail
  refine (copy13_nil _).mono ?_
  rintro e w' ⟨rfl, rfl⟩
  go_wp2_with fail
  have hb0 : Below w.heap.size w ((w.alloc (.cells (madeCells #[.int .i64 0] 0) 3)).alloc (.cells (madeCells #[.int .i64 0] 0) 3)) := ((Below.refl _ _).alloc (Nat.le_refl _) _).alloc (by simp) _
  refine (emptied_out (w.heap.size + 2) none 0 0 n (fun _ => none) (fun _ => 0) (fun _ => 0) _ ?hsz hn h0 (fun _ => rfl) (fun b hb => by cases hb)).mono ?_
  case hsz => simp
  rintro e w2 ⟨ncap, rfl, hnc, hrow2, -, hbel2⟩
  have hF : Below w.heap.size w w2 := hb0.trans (hbel2.mono (by omega))
  clear hb0 hmk hbel2
  go_wp2_with fail
  go_loop [9] (fun i => ∃ m : Nat, m ≤ n ∧ i = .int .i64 m) (fun i => n - (intOf i).toNat)
  case atStart => exact ⟨0, Nat.zero_le _, rfl⟩
  case round =>
    obtain ⟨m, hm, rfl⟩ := hrel
    by_cases hlt2 : m < n
    · have ho : w2.cell? ⟨w.heap.size + 2, m, none⟩ = some (.slice none 0 0) := by have := hrow2.cell (i := m) (by omega); simpa using this
      go_wp2_with fail
      go_round
      case rel => exact ⟨m + 1, by omega, by go_num⟩
      case measure => simp [intOf]; omega
    · go_wp2_with fail
      refine wp_loop_rounds 1 ?_
      rw [rounds_succ]
      go_wp2_with fail
      go_ret
      exact ⟨rfl, hF⟩

set_option maxRecDepth 20000 in
set_option maxHeartbeats 2000000 in
theorem exact_far_nil (n : Int) (w : World) (hn : n < 0 ∨ 65536 < n) : Calls Trym.prog 5 #[.slice none 0 0, .int .i64 n] w fun e w' => e = .returned (.bool true) ∧ Below w.heap.size w w' := by
  go_enter Trym.func5, Trym.ntmps5
  go_wp2_with fail
  refine (bytes11_nil n w).mono ?_
  rintro e w' ⟨⟨b, rfl, -⟩, rfl⟩
  cases b with
  | false =>
    go_wp2_with fail
    go_ret
    exact ⟨rfl, Below.refl _ _⟩
  | true =>
  go_wp2_with fail
  refine (fits12_nil w).mono ?_
  rintro e w' ⟨⟨b, rfl, -⟩, rfl⟩
  cases b with
  | false =>
    go_wp2_with fail
    go_ret
    exact ⟨rfl, Below.refl _ _⟩
  | true =>
  rcases hn with hn | hn
  · go_wp2_with fail
    go_ret
    exact ⟨rfl, Below.refl _ _⟩
  · have hn0 : ¬ n < 0 := by omega
    go_wp2_with fail
    go_ret
    exact ⟨rfl, Below.refl _ _⟩

set_option maxRecDepth 20000 in
set_option maxHeartbeats 2000000 in
theorem exact_far (x : Addr) (len cap : Nat) (A : Nat → Option Addr) (L C : Nat → Nat) (hm : len ≤ 9223372036854775807) (n : Int) (w : World) (hc : Outer w x len A L C) (hn : n < 0 ∨ 65536 < n) : Calls Trym.prog 5 #[.slice (some x) len cap, .int .i64 n] w fun e w' => e = .returned (.bool true) ∧ Below w.heap.size w w' := by
  go_enter Trym.func5, Trym.ntmps5
  go_wp2_with fail
  refine (bytes11 x len cap A L C n w hm hc).mono ?_
  rintro e w' ⟨⟨b, rfl, -⟩, rfl⟩
  cases b with
  | false =>
    go_wp2_with fail
    go_ret
    exact ⟨rfl, Below.refl _ _⟩
  | true =>
  go_wp2_with fail
  refine (fits12 x len cap A L C w hm hc).mono ?_
  rintro e w' ⟨⟨b, rfl, -⟩, rfl⟩
  cases b with
  | false =>
    go_wp2_with fail
    go_ret
    exact ⟨rfl, Below.refl _ _⟩
  | true =>
  rcases hn with hn | hn
  · go_wp2_with fail
    go_ret
    exact ⟨rfl, Below.refl _ _⟩
  · have hn0 : ¬ n < 0 := by omega
    go_wp2_with fail
    go_ret
    exact ⟨rfl, Below.refl _ _⟩
end Go.Proofs.Qxb6603347aMods.Emptied
