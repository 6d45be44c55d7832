import Derived.Test.Qxb6604021aModsResumeWalk
namespace Go.Proofs.Qxb6604021aMods.Reps
open Go.RowKit
open Resume (Pos bef befB IsTop whole)

set_option maxRecDepth 20000 in
set_option maxHeartbeats 2000000 in
theorem resumeof_long (x : Addr) (len cap : Nat) (members ot oi : Int) (rcv : Bool) (T : Nat → Int) (S : Nat → ByteArray) (P I : Nat → Int) (w : World) (hl : 65536 < len) (hl2 : len ≤ 9223372036854775807) (hc : Reps w x len T S P I) : Calls Trym.prog 4 #[.int .i64 members, .int .u64 ot, .int .u64 oi, .bool rcv, .slice (some x) len cap] w fun e w' => e = .returned (.bool true) ∧ Below w.heap.size w w' := by
  go_enter Trym.func4, Trym.ntmps4
  go_wp2_with fail
  refine (bytes12 x len cap T S P I members ot oi rcv w hl2 hc).mono ?_
  rintro e w' ⟨⟨b, rfl, -⟩, rfl⟩
  cases b with
  | false =>
    go_wp2_with fail
    go_ret
    exact ⟨rfl, Below.refl _ _⟩
  | true =>
  go_wp2_with fail
  go_ret
  exact ⟨rfl, Below.refl _ _⟩

set_option maxRecDepth 20000 in
set_option maxHeartbeats 2000000 in
theorem resumeof_small (x : Addr) (len cap : Nat) (members ot oi : Int) (rcv : Bool) (T : Nat → Int) (S : Nat → ByteArray) (P I : Nat → Int) (w : World) (hl : len ≤ 65536) (hm : members < 1) (hc : Reps w x len T S P I) : Calls Trym.prog 4 #[.int .i64 members, .int .u64 ot, .int .u64 oi, .bool rcv, .slice (some x) len cap] w fun e w' => e = .returned (.bool true) ∧ Below w.heap.size w w' := by
  go_enter Trym.func4, Trym.ntmps4
  go_wp2_with fail
  refine (bytes12 x len cap T S P I members ot oi rcv w (by omega) hc).mono ?_
  rintro e w' ⟨⟨b, rfl, -⟩, rfl⟩
  cases b with
  | false =>
    go_wp2_with fail
    go_ret
    exact ⟨rfl, Below.refl _ _⟩
  | true =>
  go_wp2_with fail
  refine (bytes8 x len cap T S P I w hl hc).mono ?_
  rintro e w' ⟨⟨z, rfl⟩, rfl⟩
  by_cases hz : 1048576 < z
  · go_wp2_with fail
    go_ret
    exact ⟨rfl, Below.refl _ _⟩
  go_wp2_with fail
  go_ret
  exact ⟨rfl, Below.refl _ _⟩

set_option maxRecDepth 20000 in
set_option maxHeartbeats 2000000 in
theorem resumeof_nil_small (members ot oi : Int) (rcv : Bool) (w : World) (hm : members < 1) : Calls Trym.prog 4 #[.int .i64 members, .int .u64 ot, .int .u64 oi, .bool rcv, .slice none 0 0] w fun e w' => e = .returned (.bool true) ∧ Below w.heap.size w w' := by
  go_enter Trym.func4, Trym.ntmps4
  go_wp2_with fail
  refine (bytes12_nil members ot oi rcv w).mono ?_
  rintro e w' ⟨⟨b, rfl, -⟩, rfl⟩
  cases b with
  | false =>
    go_wp2_with fail
    go_ret
    exact ⟨rfl, Below.refl _ _⟩
  | true =>
  go_wp2_with fail
  refine (bytes8_nil w).mono ?_
  rintro e w' ⟨rfl, rfl⟩
  go_wp2_with fail
  go_ret
  exact ⟨rfl, Below.refl _ _⟩

set_option maxRecDepth 20000 in
set_option maxHeartbeats 2000000 in
theorem resumeof_nil (members ot oi : Int) (rcv : Bool) (w : World) (hm : 1 ≤ members) (hm2 : members ≤ 9223372036854775807) (ho : 0 ≤ ot ∧ 0 ≤ oi) : Calls Trym.prog 4 #[.int .i64 members, .int .u64 ot, .int .u64 oi, .bool rcv, .slice none 0 0] w fun e w' => e = .returned (.bool true) ∧ Below w.heap.size w w' := by
  go_enter Trym.func4, Trym.ntmps4
  go_wp2_with fail
  refine (bytes12_nil members ot oi rcv w).mono ?_
  rintro e w' ⟨⟨b, rfl, -⟩, rfl⟩
  cases b with
  | false =>
    go_wp2_with fail
    go_ret
    exact ⟨rfl, Below.refl _ _⟩
  | true =>
  go_wp2_with fail
  refine (bytes8_nil w).mono ?_
  rintro e w' ⟨rfl, rfl⟩
  go_wp2_with fail
  refine (clone9_nil w).mono ?_
  rintro e w' ⟨rfl, rfl⟩
  go_wp2_with fail
  refine (build11_nil w).mono ?_
  rintro e w1 ⟨rfl, hw1⟩
  have hM : MapIs w1 w.heap.size (repV (fun _ => 0) (fun _ => ByteArray.empty) (fun _ => 0) (fun _ => 0)) 0 := by rw [hw1]; exact Go.Deep.blk_alloc_new _ _
  have hb1 : Below w.heap.size w w1 := by rw [hw1]; exact (Below.refl _ _).alloc (Nat.le_refl _) _
  have hsz : w.heap.size ≤ w1.heap.size := hb1.size
  clear hw1
  have h13 := resume13 w.heap.size 0 members ot oi rcv _ _ _ _ w1 (by omega) hm hm2 hM
  go_wp2_with fail
  refine h13.mono ?_
  clear h13 hM
  rintro e w3 hres
  obtain ⟨f, st, p, rfl, hT, hb3, hout⟩ := outcome_of hres
  have hbl := hb1.trans (hb3.mono hsz)
  have hf0 : f = (0, 0) := by
    rcases hT.hit with h | ⟨i, hi, _⟩
    · exact h
    · omega
  subst hf0
  have hnb : befB (ot, oi) (0, 0) = false := by
    rw [Resume.befB_false]
    unfold bef
    simp
    omega
  have HO : Hid ((rcv = false ∧ st = wholeS ∧ p = none) ∨ (rcv = true ∧ st = recovS ∧ ∃ F, p = some ⟨F, 0, none⟩ ∧ w3.rowIs F 64 2 (posF (0, 0)))) := by
    rcases hout with ⟨h1, _⟩ | ⟨_, h2, _, h4, h5⟩ | ⟨_, h2, h3, h4⟩
    · simp [whole] at h1; omega
    · exact .inl ⟨h2, h4, h5⟩
    · refine .inr ⟨?_, h3, h4⟩
      rcases h2 with h | h
      · exact h
      · rw [hnb] at h; cases h
  clear hres hT hb3 hout hnb hb1 hsz ho
  rcases HO.out with ⟨rfl, rfl, rfl⟩ | ⟨rfl, rfl, F, rfl, hrow⟩
  · clear HO
    have hy := whole_yes
    go_wp2_with fail
    refine wp_loop_rounds 1 ?_
    rw [rounds_succ]
    go_wp2_with fail
    refine wp_loop_rounds 1 ?_
    rw [rounds_succ]
    go_wp2_with fail
    go_ret
    exact ⟨rfl, hbl⟩
  · clear HO
    have hy := recov_yes
    have hpos : Calls Trym.prog 16 #[.pointer (some ⟨F, 0, none⟩)] w3 fun e w' => e = .returned (.tuple #[.int .u64 0, .int .u64 0]) ∧ Same w3 w' := (position16 F (0, 0) w3 hrow).mono fun e w' ⟨h1, n, h2⟩ => ⟨h1, by rw [h2]; exact (Same.refl _).drewN n⟩
    clear hrow
    go_wp2_with fail
    refine wp_loop_rounds 1 ?_
    rw [rounds_succ]
    go_wp2_with fail
    refine wp_loop_rounds 1 ?_
    rw [rounds_succ]
    go_wp2_with fail
    refine hpos.mono ?_
    rintro e w5 ⟨rfl, hK5⟩
    have hbl5 := hbl.trans (hK5.below _)
    clear hpos hK5
    go_wp2_with fail
    go_ret
    exact ⟨rfl, hbl5⟩

end Go.Proofs.Qxb6604021aMods.Reps
