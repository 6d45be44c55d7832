import Derived.Test.Qxb6603347aModsRegrow
namespace Go.Proofs.Qxb6603347aMods.Emptied
open Go.RowKit

theorem outer_row {w : World} {B cap n : Nat} {A : Nat → Option Addr} {L C : Nat → Nat} (h : w.rowIs B 26 cap (fun i => .slice (A i) (L i) (C i))) (hL : ∀ i, i < n → L i ≤ 9223372036854775807) (hn : n ≤ cap) : Outer w ⟨B, 0, none⟩ n A L C :=
  fun i hi => ⟨by rw [Addr.add_lit, Nat.zero_add]; exact h.cell (by omega), hL i hi⟩

theorem grown_row {w : World} {B cap k : Nat} {A : Nat → Option Addr} {C : Nat → Nat} (h : w.rowIs B 26 cap (fun i => if i < k then .slice (A i) 0 (C i) else .slice none 0 0)) :
    w.rowIs B 26 cap (fun i => .slice ((fun i => if i < k then A i else none) i) ((fun _ => 0) i) ((fun i => if i < k then C i else 0) i)) :=
  h.congr fun j _ => by by_cases h : j < k <;> simp [h]

set_option maxRecDepth 20000 in
set_option maxHeartbeats 2000000 in
theorem regrow_out (x : Addr) (len cap n m : Nat) (A : Nat → Option Addr) (L C : Nat → Nat) (w : World) (hm : len ≤ 9223372036854775807) (hc : Outer w x len A L C) (hn : n ≤ 65536) (hmm : m ≤ 65536) (hnl : len < n) :
    Calls Trym.prog 6 #[.slice (some x) len cap, .int .i64 n, .int .i64 m] w fun e w' => e = .returned (.bool true) ∧ Below w.heap.size w w' := by
  have hb15 := bytes15 x len cap A L C n m w hm hc
  have hf12 := fits12 x len cap A L C w hm hc
  go_enter Trym.func6, Trym.ntmps6
  go_wp2_with fail
  refine hb15.mono ?_
  rintro e w' ⟨⟨b, rfl, -⟩, rfl⟩
  cases b with
  | false =>
    go_wp2_with fail
    go_ret
    exact ⟨rfl, Below.refl _ _⟩
  | true =>
  go_wp2_with fail
  refine hf12.mono ?_
  rintro e w' ⟨⟨b, rfl, hb⟩, rfl⟩
  cases b with
  | false =>
    go_wp2_with fail
    go_ret
    exact ⟨rfl, Below.refl _ _⟩
  | true =>
  have hl := hb rfl
  clear hb15 hf12 hb hm
  have hmk := run_make_row' (P := Trym.prog) 26 3 (.int .i64 0) 8 Trym.underlying26 info3 rfl .i64 .i64 len (by omega) (by omega)
  go_wp2_with fail
  clear hmk
  go_loopw [8] (fun i wr => ∃ k : Nat, k ≤ len ∧ i = .int .i64 k ∧ Caps w w.heap.size len C k wr) (fun i _ => len - (intOf i).toNat)
  case atStart => exact ⟨0, Nat.zero_le _, rfl, caps_start _ _ _⟩
  case round =>
    obtain ⟨k, hk, rfl, hM⟩ := hrel
    by_cases hlt : k < len
    · have hcx := ((outer_of hc hM.below) k hlt).1
      have hcc := hM.caps.cell hlt
      have hfc := hM.caps.frozen k
      have HS := caps_step hM
      clear hM
      go_wp2_with fail
      go_roundw
      case rel => exact ⟨k + 1, by omega, by go_num, HS⟩
      case measure => simp [intOf]; omega
    · obtain rfl : k = len := by omega
      have hO := outer_of hc hM.below
      have hcp := copied (w.heap.size + 1) x k cap A L C wr hM.size hl hO
      go_wp2_with (go_at_call 13; refine hcp.mono ?_; rintro e w1 ⟨rfl, hrow1, hsz1, hbel1⟩)
      have hem := emptied_out (w.heap.size + 2) (some ⟨w.heap.size + 1, 0, none⟩) k k n A L C w1 hsz1 hn hnl (fun h => by cases h) (fun b hb j hj => by cases hb; rw [Addr.add_lit, Nat.zero_add]; exact hrow1.cell hj)
      refine hem.mono ?_
      clear hO hcp hc hem hrow1
      rintro e w2 ⟨ncap, rfl, hnc, hrow2, hsz2, hbel2⟩
      have hbel3 := hbel1.trans (hbel2.mono (Nat.le_succ _))
      have hcp2 := copied (w.heap.size + 3) ⟨w.heap.size + 2, 0, none⟩ n ncap (fun i => if i < k then A i else none) (fun _ => 0) (fun i => if i < k then C i else 0) w2 hsz2 (by omega) (outer_row (grown_row hrow2) (fun _ _ => by omega) hnc)
      clear hbel1 hbel2 hrow2 hsz1 hsz2
      go_wp2_with fail
      refine hcp2.mono ?_
      rintro e w3 ⟨rfl, hrow3, hsz3, hbel4⟩
      have hbel5 := hbel3.trans (hbel4.mono (by omega))
      have hem2 := emptied_any (w.heap.size + 3) n n m (fun i => if i < k then A i else none) (fun _ => 0) (fun i => if i < k then C i else 0) w3 (by omega) hmm hrow3
      clear hbel3 hbel4 hrow3 hsz3 hcp2
      go_wp2_with fail
      refine hem2.mono ?_
      rintro e w4 ⟨O, oc, A', C', rfl, hoc, hB⟩
      have hF := last_of hM hbel5 (by omega) hB (Nat.le_of_lt hnl) (fun i hi => by simp [hi])
      clear hM hbel5 hB hem2
      go_wp2_with fail
      clear wr
      go_loopw [11] (fun i wr => ∃ q : Nat, q ≤ m ∧ i = .int .i64 q ∧ Last w w.heap.size k C m O A' C' wr) (fun i _ => m - (intOf i).toNat)
      case atStart => exact ⟨0, Nat.zero_le _, rfl, hF⟩
      case round =>
        clear hF
        obtain ⟨q, hq, rfl, hF⟩ := hrel
        by_cases hlt2 : q < m
        · have ho := hF.cell q hlt2
          have hoq : (q : Int) < (oc : Int) := by omega
          by_cases hqk : q < k
          · have hca := hF.caps.cell (i := q) hqk
            rw [hF.same q hqk] at ho
            have hqk' : (q : Int) < (k : Int) := by omega
            go_wp2_with fail
            go_quiet (fail)
            go_wp2_with fail
            go_roundw
            case rel => exact ⟨q + 1, by omega, by go_num, hF.drewN _⟩
            case measure => simp [intOf]; omega
          · have hd : decide ((q : Int) < (k : Int)) = false := by simp; omega
            go_wp2_with fail
            go_quiet (fail)
            go_wp2_with fail
            go_roundw
            case rel => exact ⟨q + 1, by omega, by go_num, hF.drewN _⟩
            case measure => simp [intOf]; omega
        · have hb := hF.below
          clear hF
          go_wp2_with fail
          go_ret
          exact ⟨rfl, hb⟩

set_option maxRecDepth 20000 in
set_option maxHeartbeats 2000000 in
theorem regrow_nil00 (w : World) : Calls Trym.prog 6 #[.slice none 0 0, .int .i64 0, .int .i64 0] w fun e w' => e = .returned (.bool true) ∧ Below w.heap.size w w' := by
  have hmk := run_make_row' (P := Trym.prog) 26 3 (.int .i64 0) 8 Trym.underlying26 info3 rfl .i64 .i64 0 (by omega) (by omega)
  simp only [Int.natCast_zero] at hmk
  go_enter Trym.func6, Trym.ntmps6
  go_wp2_with fail
  refine (bytes15_nil 0 0 w).mono ?_
  rintro e w' ⟨⟨b, rfl, -⟩, rfl⟩
  cases b with
  | false =>
    go_wp2_with fail
    go_ret
    exact ⟨rfl, Below.refl _ _⟩
  | true =>
  go_wp2_with fail
  refine (fits12_nil w).mono ?_
  rintro e w' ⟨⟨b, rfl, -⟩, rfl⟩
  cases b with
  | false =>
    go_wp2_with fail
    go_ret
    exact ⟨rfl, Below.refl _ _⟩
  | true =>
  go_wp2_with fail
  refine wp_loop_rounds 1 ?_
  rw [rounds_succ]
  go_wp2_with fail
  refine (copy13_nil _).mono ?_
  rintro e w' ⟨rfl, rfl⟩
  go_wp2_with fail
  have hK := caps_start w 0 (fun _ => 0)
  refine (emptied_nil _).mono ?_
  rintro e w' ⟨rfl, rfl⟩
  go_wp2_with fail
  refine (emptied_nil _).mono ?_
  rintro e w' ⟨rfl, rfl⟩
  go_wp2_with fail
  refine wp_loop_rounds 1 ?_
  rw [rounds_succ]
  go_wp2_with fail
  go_ret
  exact ⟨rfl, hK.below⟩

set_option maxRecDepth 20000 in
set_option maxHeartbeats 2000000 in
theorem regrow_nil0 (m : Nat) (w : World) (hmm : m ≤ 65536) (h0 : 0 < m) : Calls Trym.prog 6 #[.slice none 0 0, .int .i64 0, .int .i64 m] w fun e w' => e = .returned (.bool true) ∧ Below w.heap.size w w' := by
  have hmk := run_make_row' (P := Trym.prog) 26 3 (.int .i64 0) 8 Trym.underlying26 info3 rfl .i64 .i64 0 (by omega) (by omega)
  simp only [Int.natCast_zero] at hmk
  go_enter Trym.func6, Trym.ntmps6
  go_wp2_with fail
  refine (bytes15_nil 0 m w).mono ?_
  rintro e w' ⟨⟨b, rfl, -⟩, rfl⟩
  cases b with
  | false =>
    go_wp2_with fail
    go_ret
    exact ⟨rfl, Below.refl _ _⟩
  | true =>
  go_wp2_with fail
  refine (fits12_nil w).mono ?_
  rintro e w' ⟨⟨b, rfl, -⟩, rfl⟩
  cases b with
  | false =>
    go_wp2_with fail
    go_ret
    exact ⟨rfl, Below.refl _ _⟩
  | true =>
  go_wp2_with fail
  refine wp_loop_rounds 1 ?_
  rw [rounds_succ]
  go_wp2_with fail
  refine (copy13_nil _).mono ?_
  rintro e w' ⟨rfl, rfl⟩
  go_wp2_with fail
  have hK := caps_start w 0 (fun _ => 0)
  refine (emptied_nil _).mono ?_
  rintro e w' ⟨rfl, rfl⟩
  go_wp2_with fail
  have hbel1 := Below.refl (w.heap.size + 1) (w.alloc (.cells (madeCells #[.int .i64 0] 0) 3))
  refine (emptied_any_nil m _ hmm h0).mono ?_
  rintro e w4 ⟨O, oc, A', C', rfl, hoc, hB⟩
  have hF := last_of hK hbel1 (by simp) hB (Nat.le_refl _) (fun i hi => by omega)
  clear hK hbel1 hB hmk
  go_wp2_with fail
  go_loopw [11] (fun i wr => ∃ q : Nat, q ≤ m ∧ i = .int .i64 q ∧ Last w w.heap.size 0 (fun _ => 0) m O A' C' wr) (fun i _ => m - (intOf i).toNat)
  case atStart => exact ⟨0, Nat.zero_le _, rfl, hF⟩
  case round =>
    clear hF
    obtain ⟨q, hq, rfl, hF⟩ := hrel
    by_cases hlt2 : q < m
    · have ho := hF.cell q hlt2
      have hoq : (q : Int) < (oc : Int) := by omega
      have hd : decide ((q : Int) < 0) = false := by simp
      go_wp2_with fail
      go_quiet (fail)
      go_wp2_with fail
      go_roundw
      case rel => exact ⟨q + 1, by omega, by go_num, hF.drewN _⟩
      case measure => simp [intOf]; omega
    · have hb := hF.below
      clear hF
      go_wp2_with fail
      go_ret
      exact ⟨rfl, hb⟩

set_option maxRecDepth 20000 in
set_option maxHeartbeats 2000000 in
theorem regrow_nil (n m : Nat) (w : World) (hn : n ≤ 65536) (hmm : m ≤ 65536) (h0 : 0 < n) : Calls Trym.prog 6 #[.slice none 0 0, .int .i64 n, .int .i64 m] w fun e w' => e = .returned (.bool true) ∧ Below w.heap.size w w' := by
  have hmk := run_make_row' (P := Trym.prog) 26 3 (.int .i64 0) 8 Trym.underlying26 info3 rfl .i64 .i64 0 (by omega) (by omega)
  simp only [Int.natCast_zero] at hmk
  go_enter Trym.func6, Trym.ntmps6
  go_wp2_with fail
  refine (bytes15_nil n m w).mono ?_
  rintro e w' ⟨⟨b, rfl, -⟩, rfl⟩
  cases b with
  | false =>
    go_wp2_with fail
    go_ret
    exact ⟨rfl, Below.refl _ _⟩
  | true =>
  go_wp2_with fail
  refine (fits12_nil w).mono ?_
  rintro e w' ⟨⟨b, rfl, -⟩, rfl⟩
  cases b with
  | false =>
    go_wp2_with fail
    go_ret
    exact ⟨rfl, Below.refl _ _⟩
  | true =>
  go_wp2_with fail
  refine wp_loop_rounds 1 ?_
  rw [rounds_succ]
  go_wp2_with fail
  refine (copy13_nil _).mono ?_
  rintro e w' ⟨rfl, rfl⟩
  go_wp2_with fail
  have hK := caps_start w 0 (fun _ => 0)
  have hem := emptied_out (w.heap.size + 1) none 0 0 n (fun _ => none) (fun _ => 0) (fun _ => 0) (w.alloc (.cells (madeCells #[.int .i64 0] 0) 3)) (by simp) hn h0 (fun _ => rfl) (fun b hb => by cases hb)
  refine hem.mono ?_
  rintro e w2 ⟨ncap, rfl, hnc, hrow2, hsz2, hbel2⟩
  have hcp2 := copied (w.heap.size + 2) ⟨w.heap.size + 1, 0, none⟩ n ncap (fun i => if i < 0 then none else none) (fun _ => 0) (fun i => if i < 0 then 0 else 0) w2 hsz2 (by omega) (outer_row (grown_row hrow2) (fun _ _ => by omega) hnc)
  clear hem hrow2 hsz2 hmk
  go_wp2_with fail
  refine hcp2.mono ?_
  rintro e w3 ⟨rfl, hrow3, hsz3, hbel4⟩
  have hbel5 := hbel2.trans (hbel4.mono (by omega))
  have hem2 := emptied_any (w.heap.size + 2) n n m (fun i => if i < 0 then none else none) (fun _ => 0) (fun i => if i < 0 then 0 else 0) w3 (by omega) hmm hrow3
  clear hbel2 hbel4 hrow3 hsz3 hcp2
  go_wp2_with fail
  refine hem2.mono ?_
  rintro e w4 ⟨O, oc, A', C', rfl, hoc, hB⟩
  have hF := last_of hK hbel5 (by omega) hB (Nat.zero_le _) (fun i hi => by omega)
  clear hK hbel5 hB hem2
  go_wp2_with fail
  go_loopw [11] (fun i wr => ∃ q : Nat, q ≤ m ∧ i = .int .i64 q ∧ Last w w.heap.size 0 (fun _ => 0) m O A' C' wr) (fun i _ => m - (intOf i).toNat)
  case atStart => exact ⟨0, Nat.zero_le _, rfl, hF⟩
  case round =>
    clear hF
    obtain ⟨q, hq, rfl, hF⟩ := hrel
    by_cases hlt2 : q < m
    · have ho := hF.cell q hlt2
      have hoq : (q : Int) < (oc : Int) := by omega
      have hd : decide ((q : Int) < 0) = false := by simp
      go_wp2_with fail
      go_quiet (fail)
      go_wp2_with fail
      go_roundw
      case rel => exact ⟨q + 1, by omega, by go_num, hF.drewN _⟩
      case measure => simp [intOf]; omega
    · have hb := hF.below
      clear hF
      go_wp2_with fail
      go_ret
      exact ⟨rfl, hb⟩

set_option maxRecDepth 20000 in
set_option maxHeartbeats 2000000 in
theorem regrow_far_nil (n m : Int) (w : World) (hn : n < 0 ∨ 65536 < n ∨ m < 0 ∨ 65536 < m) : Calls Trym.prog 6 #[.slice none 0 0, .int .i64 n, .int .i64 m] w fun e w' => e = .returned (.bool true) ∧ Below w.heap.size w w' := by
  go_enter Trym.func6, Trym.ntmps6
  go_wp2_with fail
  refine (bytes15_nil n m w).mono ?_
  rintro e w' ⟨⟨b, rfl, -⟩, rfl⟩
  cases b with
  | false =>
    go_wp2_with fail
    go_ret
    exact ⟨rfl, Below.refl _ _⟩
  | true =>
  go_wp2_with fail
  refine (fits12_nil w).mono ?_
  rintro e w' ⟨⟨b, rfl, -⟩, rfl⟩
  cases b with
  | false =>
    go_wp2_with fail
    go_ret
    exact ⟨rfl, Below.refl _ _⟩
  | true =>
  rcases hn with hn | hn | hn | hn
  · go_wp2_with fail
    go_ret
    exact ⟨rfl, Below.refl _ _⟩
  · have hn0 : ¬ n < 0 := by omega
    go_wp2_with fail
    go_ret
    exact ⟨rfl, Below.refl _ _⟩
  · by_cases h1 : n < 0
    · go_wp2_with fail
      go_ret
      exact ⟨rfl, Below.refl _ _⟩
    · by_cases h2 : 65536 < n
      · go_wp2_with fail
        go_ret
        exact ⟨rfl, Below.refl _ _⟩
      · go_wp2_with fail
        go_ret
        exact ⟨rfl, Below.refl _ _⟩
  · by_cases h1 : n < 0
    · go_wp2_with fail
      go_ret
      exact ⟨rfl, Below.refl _ _⟩
    · by_cases h2 : 65536 < n
      · go_wp2_with fail
        go_ret
        exact ⟨rfl, Below.refl _ _⟩
      · have h3 : ¬ m < 0 := by omega
        go_wp2_with fail
        go_ret
        exact ⟨rfl, Below.refl _ _⟩

set_option maxRecDepth 20000 in
set_option maxHeartbeats 2000000 in
theorem regrow_far (x : Addr) (len cap : Nat) (A : Nat → Option Addr) (L C : Nat → Nat) (hm : len ≤ 9223372036854775807) (n m : Int) (w : World) (hc : Outer w x len A L C) (hn : n < 0 ∨ 65536 < n ∨ m < 0 ∨ 65536 < m) : Calls Trym.prog 6 #[.slice (some x) len cap, .int .i64 n, .int .i64 m] w fun e w' => e = .returned (.bool true) ∧ Below w.heap.size w w' := by
  go_enter Trym.func6, Trym.ntmps6
  go_wp2_with fail
  refine (bytes15 x len cap A L C n m w hm hc).mono ?_
  rintro e w' ⟨⟨b, rfl, -⟩, rfl⟩
  cases b with
  | false =>
    go_wp2_with fail
    go_ret
    exact ⟨rfl, Below.refl _ _⟩
  | true =>
  go_wp2_with fail
  refine (fits12 x len cap A L C w hm hc).mono ?_
  rintro e w' ⟨⟨b, rfl, -⟩, rfl⟩
  cases b with
  | false =>
    go_wp2_with fail
    go_ret
    exact ⟨rfl, Below.refl _ _⟩
  | true =>
  rcases hn with hn | hn | hn | hn
  · go_wp2_with fail
    go_ret
    exact ⟨rfl, Below.refl _ _⟩
  · have hn0 : ¬ n < 0 := by omega
    go_wp2_with fail
    go_ret
    exact ⟨rfl, Below.refl _ _⟩
  · by_cases h1 : n < 0
    · go_wp2_with fail
      go_ret
      exact ⟨rfl, Below.refl _ _⟩
    · by_cases h2 : 65536 < n
      · go_wp2_with fail
        go_ret
        exact ⟨rfl, Below.refl _ _⟩
      · go_wp2_with fail
        go_ret
        exact ⟨rfl, Below.refl _ _⟩
  · by_cases h1 : n < 0
    · go_wp2_with fail
      go_ret
      exact ⟨rfl, Below.refl _ _⟩
    · by_cases h2 : 65536 < n
      · go_wp2_with fail
        go_ret
        exact ⟨rfl, Below.refl _ _⟩
      · have h3 : ¬ m < 0 := by omega
        go_wp2_with fail
        go_ret
        exact ⟨rfl, Below.refl _ _⟩

end Go.Proofs.Qxb6603347aMods.Emptied
