import Derived.Test.Qxb6604021aModsRepBuild
import Derived.Test.Qxb6604021aModsRepStart
namespace Go.Proofs.Qxb6604021aMods.Reps
open Go.RowKit
open Grid (Grid)

theorem built (M B len : Nat) (T : Nat → Int) (S : Nat → ByteArray) (P I : Nat → Int) (w : World) (hM : w.heap.size = M) (hl : len ≤ 65536) (hg : Grid w B 33 4 len (repF T S P I)) :
    Calls Trym.prog 11 #[.slice (some ⟨B, 0, none⟩) len len] w fun e w' => e = .returned (.map (some M)) ∧ MapIs w' M (repV T S P I) len ∧ w'.heap.size = M + 1 ∧ Below M w w' := by
  subst hM
  exact build11 B len T S P I w hl hg

/-- Is b among the first k terms? -/
def hit (T : Nat → Int) (b : Int) : Nat → Bool
  | 0 => false
  | k + 1 => hit T b k || (T k == b)
theorem hit_mem {T : Nat → Int} {b : Int} {i : Nat} (he : T i = b) : ∀ {k : Nat}, i < k → hit T b k = true
  | k + 1, h => by
    by_cases e : i = k
    · subst e; simp [hit, he]
    · simp [hit, hit_mem he (show i < k by omega)]

/-- What the checks read. -/
structure Seen (w : World) (B len : Nat) (T : Nat → Int) (S : Nat → ByteArray) (P I : Nat → Int) (wr : World) : Prop where
  grid : Grid wr B 33 4 len (repF T S P I)
  below : Below w.heap.size w wr

theorem seen_of {w w1 w2 w3 : World} {B len : Nat} {T : Nat → Int} {S : Nat → ByteArray} {P I : Nat → Int} (hB : B = w.heap.size) (hg : Grid w1 B 33 4 len (repF T S P I)) (hb1 : Below w.heap.size w w1) (hb2 : Below (B + 1) w1 w2) (hb3 : Below (B + 1) w2 w3) : Seen w B len T S P I w3 :=
  ⟨hg.below (hb2.trans hb3) (by omega), hb1.trans ((hb2.trans hb3).mono (by omega))⟩

set_option maxRecDepth 20000 in
set_option maxHeartbeats 2000000 in
theorem startof_all (x : Addr) (len cap : Nat) (members : Int) (T : Nat → Int) (S : Nat → ByteArray) (P I : Nat → Int) (w : World) (hl : len ≤ 65536) (hm : 1 ≤ members) (hm2 : members ≤ 9223372036854775807) (hc : Reps w x len T S P I) (hall : members - 1 ≤ len) :
    Calls Trym.prog 3 #[.int .i64 members, .slice (some x) len cap] w fun e w' => e = .returned (.bool true) ∧ Below w.heap.size w w' := by
  have h7 := bytes7 x len cap T S P I members w (by omega) hc
  have h8 := bytes8 x len cap T S P I w hl hc
  have h9 := clone9 x len cap T S P I w hl hc
  clear hc
  go_enter Trym.func3, Trym.ntmps3
  go_wp2_with fail
  refine h7.mono ?_
  rintro e w' ⟨⟨b, rfl, -⟩, rfl⟩
  clear h7
  cases b with
  | false =>
    go_wp2_with fail
    go_ret
    exact ⟨rfl, Below.refl _ _⟩
  | true =>
  go_wp2_with fail
  refine h8.mono ?_
  rintro e w' ⟨⟨z, rfl⟩, rfl⟩
  clear h8
  by_cases hz : 1048576 < z
  · go_wp2_with fail
    go_ret
    exact ⟨rfl, Below.refl _ _⟩
  go_wp2_with fail
  refine h9.mono ?_
  clear h9
  rintro e w1 ⟨rfl, hg1, hs1, hb1⟩
  have h11 := built (w.heap.size + 1) w.heap.size len T S P I w1 hs1 hl hg1
  go_wp2_with fail
  refine h11.mono ?_
  clear h11
  rintro e w2 ⟨rfl, hM, hs2, hb2⟩
  have h10 := start10 (w.heap.size + 1) len members T S P I w2 hm hm2 hM hall
  go_wp2_with fail
  refine h10.mono ?_
  clear h10
  rintro e w3 ⟨⟨b, hB, rfl⟩, hb3⟩
  have hS := seen_of rfl hg1 hb1 hb2 (hb3.mono (by omega))
  clear hs1 hs2 hb1 hb2 hb3 hM hg1
  by_cases hb0 : b = 0
  · subst hb0
    have h1 := hB.zero
    have hcs := hS.grid
    have hbl := hS.below
    clear hB hS
    go_wp2_with fail
    go_loop [7] (fun i => ∃ k : Nat, k ≤ len ∧ i = .int .i64 k) (fun i => len - (intOf i).toNat)
    case atStart => exact ⟨0, Nat.zero_le _, rfl⟩
    case round =>
      obtain ⟨k, hk, rfl⟩ := hrel
      by_cases hlt : k < len
      · have hck : w3.cell? ⟨w.heap.size, k * 4, none⟩ = some (.int .u64 (T k)) := hcs.cell0 hlt (by omega)
        have h1k := h1 k hlt
        go_wp2_with fail
        go_round
        case rel => exact ⟨k + 1, by omega, by go_num⟩
        case measure => simp [intOf]; omega
      · go_wp2_with fail
        go_ret
        exact ⟨rfl, hbl⟩
  · obtain ⟨hb1, hle, i0, hi0, he0⟩ := hB.more hb0
    have HH : Hid (hit T b len = true) := hit_mem he0 hi0
    have hcs := hS.grid
    have hbl := hS.below
    have hbz : (b == 0) = false := by simpa using hb0
    clear hB hS hb0 he0
    go_wp2_with fail
    go_loop [8, 9] (fun s i => ∃ k : Nat, k ≤ len ∧ i = .int .i64 k ∧ s = .bool (hit T b k)) (fun _ i => len - (intOf i).toNat)
    case atStart => exact ⟨0, Nat.zero_le _, rfl, rfl⟩
    case round =>
      obtain ⟨k, hk, rfl, rfl⟩ := hrel
      by_cases hlt : k < len
      · have hck : w3.cell? ⟨w.heap.size, k * 4, none⟩ = some (.int .u64 (T k)) := hcs.cell0 hlt (by omega)
        have h1k := hle k hlt
        by_cases hbk : T k = b
        · have hkb : (T k == b) = true := by simp [hbk]
          have HK : Hid (hit T b (k + 1) = true) := by show _ = _; simp [hit, hkb]
          clear hbk
          go_wp2_with fail
          go_round
          case rel => exact ⟨k + 1, by omega, by go_num, by rw [HK.out]⟩
          case measure => simp [intOf]; omega
        · have hkb : (T k == b) = false := by simpa using hbk
          have HK : Hid (hit T b (k + 1) = hit T b k) := by show _ = _; simp [hit, hkb]
          clear hbk
          go_wp2_with fail
          go_round
          case rel => exact ⟨k + 1, by omega, by go_num, by rw [HK.out]⟩
          case measure => simp [intOf]; omega
      · obtain rfl : k = len := by omega
        rw [HH.out]
        go_wp2_with fail
        go_ret
        exact ⟨rfl, hbl⟩

set_option maxRecDepth 20000 in
set_option maxHeartbeats 2000000 in
theorem startof_few (x : Addr) (len cap : Nat) (members : Int) (T : Nat → Int) (S : Nat → ByteArray) (P I : Nat → Int) (w : World) (hl : len ≤ 65536) (hm : 1 ≤ members) (hm2 : members ≤ 9223372036854775807) (hc : Reps w x len T S P I) (hfew : (len : Int) < members - 1) :
    Calls Trym.prog 3 #[.int .i64 members, .slice (some x) len cap] w fun e w' => e = .returned (.bool true) ∧ Below w.heap.size w w' := by
  have h7 := bytes7 x len cap T S P I members w (by omega) hc
  have h8 := bytes8 x len cap T S P I w hl hc
  have h9 := clone9 x len cap T S P I w hl hc
  clear hc
  go_enter Trym.func3, Trym.ntmps3
  go_wp2_with fail
  refine h7.mono ?_
  rintro e w' ⟨⟨b, rfl, -⟩, rfl⟩
  clear h7
  cases b with
  | false =>
    go_wp2_with fail
    go_ret
    exact ⟨rfl, Below.refl _ _⟩
  | true =>
  go_wp2_with fail
  refine h8.mono ?_
  rintro e w' ⟨⟨z, rfl⟩, rfl⟩
  clear h8
  by_cases hz : 1048576 < z
  · go_wp2_with fail
    go_ret
    exact ⟨rfl, Below.refl _ _⟩
  go_wp2_with fail
  refine h9.mono ?_
  clear h9
  rintro e w1 ⟨rfl, hg1, hs1, hb1⟩
  have h11 := built (w.heap.size + 1) w.heap.size len T S P I w1 hs1 hl hg1
  go_wp2_with fail
  refine h11.mono ?_
  clear h11
  rintro e w2 ⟨rfl, hM, hs2, hb2⟩
  have h10 := start10_few (w.heap.size + 1) len members T S P I w2 hm hm2 hM hfew
  go_wp2_with fail
  refine h10.mono ?_
  clear h10
  rintro e w3 ⟨rfl, rfl⟩
  have hbl := hb1.trans (hb2.mono (by omega))
  clear hs1 hs2 hb1 hb2 hM hg1
  go_wp2_with fail
  go_ret
  exact ⟨rfl, hbl⟩

set_option maxRecDepth 20000 in
set_option maxHeartbeats 2000000 in
theorem startof_long (x : Addr) (len cap : Nat) (members : Int) (T : Nat → Int) (S : Nat → ByteArray) (P I : Nat → Int) (w : World) (hl : 65536 < len) (hl2 : len ≤ 9223372036854775807) (hc : Reps w x len T S P I) : Calls Trym.prog 3 #[.int .i64 members, .slice (some x) len cap] w fun e w' => e = .returned (.bool true) ∧ Below w.heap.size w w' := by
  go_enter Trym.func3, Trym.ntmps3
  go_wp2_with fail
  refine (bytes7 x len cap T S P I members w hl2 hc).mono ?_
  rintro e w' ⟨⟨b, rfl, -⟩, rfl⟩
  cases b with
  | false =>
    go_wp2_with fail
    go_ret
    exact ⟨rfl, Below.refl _ _⟩
  | true =>
  go_wp2_with fail
  go_ret
  exact ⟨rfl, Below.refl _ _⟩

set_option maxRecDepth 20000 in
set_option maxHeartbeats 2000000 in
theorem startof_small (x : Addr) (len cap : Nat) (members : Int) (T : Nat → Int) (S : Nat → ByteArray) (P I : Nat → Int) (w : World) (hl : len ≤ 65536) (hm : members < 1) (hc : Reps w x len T S P I) : Calls Trym.prog 3 #[.int .i64 members, .slice (some x) len cap] w fun e w' => e = .returned (.bool true) ∧ Below w.heap.size w w' := by
  go_enter Trym.func3, Trym.ntmps3
  go_wp2_with fail
  refine (bytes7 x len cap T S P I members w (by omega) hc).mono ?_
  rintro e w' ⟨⟨b, rfl, -⟩, rfl⟩
  cases b with
  | false =>
    go_wp2_with fail
    go_ret
    exact ⟨rfl, Below.refl _ _⟩
  | true =>
  go_wp2_with fail
  refine (bytes8 x len cap T S P I w hl hc).mono ?_
  rintro e w' ⟨⟨z, rfl⟩, rfl⟩
  by_cases hz : 1048576 < z
  · go_wp2_with fail
    go_ret
    exact ⟨rfl, Below.refl _ _⟩
  go_wp2_with fail
  go_ret
  exact ⟨rfl, Below.refl _ _⟩

set_option maxRecDepth 20000 in
set_option maxHeartbeats 2000000 in
theorem startof_nil_small (members : Int) (w : World) (hm : members < 1) : Calls Trym.prog 3 #[.int .i64 members, .slice none 0 0] w fun e w' => e = .returned (.bool true) ∧ Below w.heap.size w w' := by
  go_enter Trym.func3, Trym.ntmps3
  go_wp2_with fail
  refine (bytes7_nil members w).mono ?_
  rintro e w' ⟨⟨b, rfl, -⟩, rfl⟩
  cases b with
  | false =>
    go_wp2_with fail
    go_ret
    exact ⟨rfl, Below.refl _ _⟩
  | true =>
  go_wp2_with fail
  refine (bytes8_nil w).mono ?_
  rintro e w' ⟨rfl, rfl⟩
  go_wp2_with fail
  go_ret
  exact ⟨rfl, Below.refl _ _⟩

set_option maxRecDepth 20000 in
set_option maxHeartbeats 2000000 in
theorem startof_nil_few (members : Int) (w : World) (hm : 1 < members) (hm2 : members ≤ 9223372036854775807) : Calls Trym.prog 3 #[.int .i64 members, .slice none 0 0] w fun e w' => e = .returned (.bool true) ∧ Below w.heap.size w w' := by
  go_enter Trym.func3, Trym.ntmps3
  go_wp2_with fail
  refine (bytes7_nil members w).mono ?_
  rintro e w' ⟨⟨b, rfl, -⟩, rfl⟩
  cases b with
  | false =>
    go_wp2_with fail
    go_ret
    exact ⟨rfl, Below.refl _ _⟩
  | true =>
  go_wp2_with fail
  refine (bytes8_nil w).mono ?_
  rintro e w' ⟨rfl, rfl⟩
  go_wp2_with fail
  refine (clone9_nil w).mono ?_
  rintro e w' ⟨rfl, rfl⟩
  go_wp2_with fail
  refine (build11_nil w).mono ?_
  rintro e w' ⟨rfl, hw1⟩
  have hM : MapIs w' w.heap.size (repV (fun _ => 0) (fun _ => ByteArray.empty) (fun _ => 0) (fun _ => 0)) 0 := by rw [hw1]; exact Go.Deep.blk_alloc_new _ _
  have hbl : Below w.heap.size w w' := by rw [hw1]; exact (Below.refl _ _).alloc (Nat.le_refl _) _
  have hsz : w.heap.size ≤ w'.heap.size := hbl.size
  clear hw1
  have h10 := start10_few w.heap.size 0 members _ _ _ _ w' (by omega) hm2 hM (by omega)
  go_wp2_with fail
  refine h10.mono ?_
  rintro e w3 ⟨rfl, rfl⟩
  clear h10 hM hsz
  go_wp2_with fail
  go_ret
  exact ⟨rfl, hbl⟩

set_option maxRecDepth 20000 in
set_option maxHeartbeats 2000000 in
theorem startof_nil_one (w : World) : Calls Trym.prog 3 #[.int .i64 1, .slice none 0 0] w fun e w' => e = .returned (.bool true) ∧ Below w.heap.size w w' := by
  go_enter Trym.func3, Trym.ntmps3
  go_wp2_with fail
  refine (bytes7_nil 1 w).mono ?_
  rintro e w' ⟨⟨b, rfl, -⟩, rfl⟩
  cases b with
  | false =>
    go_wp2_with fail
    go_ret
    exact ⟨rfl, Below.refl _ _⟩
  | true =>
  go_wp2_with fail
  refine (bytes8_nil w).mono ?_
  rintro e w' ⟨rfl, rfl⟩
  go_wp2_with fail
  refine (clone9_nil w).mono ?_
  rintro e w' ⟨rfl, rfl⟩
  go_wp2_with fail
  refine (build11_nil w).mono ?_
  rintro e w' ⟨rfl, hw1⟩
  have hM : MapIs w' w.heap.size (repV (fun _ => 0) (fun _ => ByteArray.empty) (fun _ => 0) (fun _ => 0)) 0 := by rw [hw1]; exact Go.Deep.blk_alloc_new _ _
  have hbl : Below w.heap.size w w' := by rw [hw1]; exact (Below.refl _ _).alloc (Nat.le_refl _) _
  have hsz : w.heap.size ≤ w'.heap.size := hbl.size
  clear hw1
  have h10 := start10 w.heap.size 0 1 _ _ _ _ w' (by omega) (by omega) hM (by omega)
  go_wp2_with fail
  refine h10.mono ?_
  rintro e w3 ⟨⟨b, hB, rfl⟩, hb3⟩
  have hbl3 := hbl.trans (hb3.mono hsz)
  by_cases hb0 : b = 0
  · subst hb0
    clear h10 hM hsz hB hb3 hbl
    go_wp2_with fail
    refine wp_loop_rounds 1 ?_
    rw [rounds_succ]
    go_wp2_with fail
    go_ret
    exact ⟨rfl, hbl3⟩
  · obtain ⟨_, _, i, hi, _⟩ := hB.more hb0
    omega

end Go.Proofs.Qxb6604021aMods.Reps
