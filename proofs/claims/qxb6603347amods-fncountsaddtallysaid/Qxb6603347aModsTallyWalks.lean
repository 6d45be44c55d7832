import Derived.Test.Qxb6603347aModsTallyAdd
namespace Go.Proofs.Qxb6603347aMods.fnCountsAddTally
open Go.RowKit

theorem lt_of_cell {w : World} {a : Addr} {v : Value} (h : w.cell? a = some v) : a.block < w.heap.size := by
  rcases Nat.lt_or_ge a.block w.heap.size with h1 | h1
  · exact h1
  · simp [World.cell?, Array.getElem?_eq_none h1] at h

/-- A round of the copying loop. -/
theorem copy_step {w wr : World} {B len k : Nat} {Z : Nat → Int} (hrow : wr.rowIs B 3 len (fun j => .int .i64 (if j < k then Z j else 0))) (hB : B = w.heap.size) (hsz : wr.heap.size = w.heap.size + 1) (hbel : Below w.heap.size w wr) :
    (wr.setCell ⟨B, k, none⟩ (.int .i64 (Z k))).rowIs B 3 len (fun j => .int .i64 (if j < k + 1 then Z j else 0)) ∧
    (wr.setCell ⟨B, k, none⟩ (.int .i64 (Z k))).heap.size = w.heap.size + 1 ∧ Below w.heap.size w (wr.setCell ⟨B, k, none⟩ (.int .i64 (Z k))) := by
  refine ⟨?_, by simpa [World.setCell] using hsz, hbel.setCell (by simp [hB]) _⟩
  refine (hrow.set k (.int .i64 (Z k))).congr fun j _ => ?_
  by_cases e : j = k
  · subst e; simp
  · by_cases h : j < k
    · simp [e, h, show j < k + 1 by omega]
    · simp [e, h, show ¬ j < k + 1 by omega]

/-- The state of the tallying loop: 'B' the copy's block, 'B + 1' the counts'. -/
structure Tally (w : World) (B len : Nat) (Z : Nat → Int) (n : Nat) (wq : World) : Prop where
  nums : wq.rowIs B 3 len (fun j => .int .i64 (Z j))
  counts : wq.rowIs (B + 1) 29 4 (fun j => .int .i64 (cntTo Z j n))
  size : wq.heap.size = B + 2
  below : Below B w wq

theorem row4 {w : World} {t : TypeId} {f : Nat → Value} {c : Array Value} (h4 : c.size = 4) (h : ∀ i, i < 4 → c[i]? = some (f i)) : (w.alloc (.cells c t)).rowIs w.heap.size t 4 f := by
  have := World.rowIs_alloc w c t f (fun i hi => h i (by omega))
  rw [h4] at this
  exact this

theorem tally_start {w wr : World} {B len : Nat} {Z : Nat → Int} (hrow : wr.rowIs B 3 len (fun j => .int .i64 (Z j))) (hsz : wr.heap.size = B + 1) (hbel : Below B w wr) :
    Tally w B len Z 0 (wr.alloc (.cells #[.int .i64 0, .int .i64 0, .int .i64 0, .int .i64 0] 29)) := by
  refine ⟨hrow.alloc _, ?_, by simp [hsz], hbel.alloc (by omega) _⟩
  rw [← hsz]
  refine row4 rfl fun i hi => ?_
  match i, hi with
  | 0, _ => rfl
  | 1, _ => rfl
  | 2, _ => rfl
  | 3, _ => rfl

theorem tally_step {w wq w' : World} {B len n : Nat} {Z : Nat → Int} (h : Tally w B len Z n wq) (ha : Added (B + 1) (Z n) (fun j => cntTo Z j n) wq w') : Tally w B len Z (n + 1) w' :=
  ⟨h.nums.of_block (ha.other B (by omega)), ha.row, by rw [ha.size, h.size], h.below.trans (ha.below B (by omega))⟩

/-- The state of the loop from the back: 'B + 2' the histogram's block; the last 'len - k' numbers have been met. -/
structure Hist (w : World) (B len : Nat) (Z : Nat → Int) (k : Nat) (wq : World) : Prop where
  nums : wq.rowIs B 3 len (fun j => .int .i64 (Z j))
  counts : wq.rowIs (B + 1) 29 4 (fun j => .int .i64 (cntTo Z j len))
  hist : wq.rowIs (B + 2) 31 4 (fun j => .int .i64 (cntTo Z j len - cntTo Z j k))
  below : Below B w wq

theorem hist_start {w wr : World} {B len : Nat} {Z : Nat → Int} (h : Tally w B len Z len wr) :
    Hist w B len Z len (wr.alloc (.cells #[.int .i64 0, .int .i64 0, .int .i64 0, .int .i64 0] 31)) := by
  refine ⟨h.nums.alloc _, h.counts.alloc _, ?_, h.below.alloc (by rw [h.size]; omega) _⟩
  rw [← h.size]
  refine row4 rfl fun i hi => ?_
  match i, hi with
  | 0, _ => simp
  | 1, _ => simp
  | 2, _ => simp
  | 3, _ => simp

theorem hist_in {w wr : World} {B len m v : Nat} {Z : Nat → Int} (h : Hist w B len Z (m + 1) wr) (hv : Z m = (v : Int)) :
    Hist w B len Z m (wr.setCell ⟨B + 2, v, none⟩ (.int .i64 (cntTo Z v len - cntTo Z v (m + 1) + 1))) := by
  refine ⟨h.nums.setOther (by simp) _, h.counts.setOther (by simp) _, ?_, h.below.setCell (by simp) _⟩
  refine (h.hist.set v _).congr fun j _ => ?_
  by_cases e : j = v
  · subst e
    simp only [if_true, cntTo, hv]
    congr 1
    omega
  · have : ¬ Z m = (j : Int) := by omega
    simp [e, cntTo, this]

theorem hist_out {w wr : World} {B len m : Nat} {Z : Nat → Int} (h : Hist w B len Z (m + 1) wr) (hv : ¬ (0 ≤ Z m ∧ Z m < 4)) : Hist w B len Z m wr := by
  refine ⟨h.nums, h.counts, h.hist.congr fun j hj => ?_, h.below⟩
  have : ¬ Z m = (j : Int) := by omega
  simp [cntTo, this]

set_option maxHeartbeats 2000000 in
theorem walk_some (x : Addr) (len cap : Nat) (Z : Nat → Int) (w : World) (hl : len ≤ 131072) (hc : ∀ i, i < len → w.cell? (x.add i) = some (.int .i64 (Z i))) :
    Calls Trym.prog 4 #[.slice (some x) len cap] w fun e w' => e = .returned (.bool true) ∧ Below w.heap.size w w' := by
  have hmk := run_make_row' (P := Trym.prog) 26 3 (.int .i64 0) 8 Trym.underlying26 Trym.info3 rfl .i64 .i64 len (by omega) (by omega)
  have hnn := fun (a : Option Addr) (l c : Nat) (w : World) => run_neq_slice_nil (P := Trym.prog) w 26 3 a l c Trym.underlying26
  have hd : decide (len ≤ 1048576) = true := by simp; omega
  go_enter Trym.func4, Trym.ntmps4
  go_wp2_with (go_at_call 9; refine (bytes9 _ _ _ _ (by omega)).mono ?_; rintro e w' ⟨rfl, rfl⟩)
  clear hmk hnn hd
  go_loopw [4] (fun i wr => ∃ k : Nat, k ≤ len ∧ i = .int .i64 k ∧ wr.rowIs w.heap.size 3 len (fun j => .int .i64 (if j < k then Z j else 0)) ∧ wr.heap.size = w.heap.size + 1 ∧ Below w.heap.size w wr) (fun i _ => len - (intOf i).toNat)
  case atStart => exact ⟨0, Nat.zero_le _, rfl, (World.rowIs_made _ _ _ _), by simp, (Below.refl _ _).alloc (Nat.le_refl _) _⟩
  case round =>
    obtain ⟨k, hk, rfl, hrow, hsz, hbel⟩ := hrel
    by_cases hlt : k < len
    · have hcx : wr.cell? (x.add k) = some (.int .i64 (Z k)) := (hbel.cell (lt_of_cell (hc k hlt))).trans (hc k hlt)
      have hcy := hrow.cell hlt
      have hfy := hrow.frozen k
      have HS := copy_step hrow rfl hsz hbel
      go_wp2
      go_roundw
      case rel => exact ⟨k + 1, by omega, by go_num, HS.1, HS.2.1, HS.2.2⟩
      case measure => simp [intOf]; omega
    · obtain rfl : k = len := by omega
      have hrow1 : wr.rowIs w.heap.size 3 k (fun j => .int .i64 (Z j)) := hrow.congr fun j hj => by simp [hj]
      have hT := tally_start hrow1 hsz hbel
      clear hrow hc hrow1
      go_wp2
      clear hsz hbel
      go_loopw [6] (fun i wq => ∃ n : Nat, n ≤ k ∧ i = .int .i64 n ∧ Tally w w.heap.size k Z n wq) (fun i _ => k - (intOf i).toNat)
      case atStart => exact ⟨0, Nat.zero_le _, rfl, hT⟩
      case round =>
        clear hT
        obtain ⟨n, hn, rfl, hT⟩ := hrel
        by_cases hlt2 : n < k
        · have hcz := hT.nums.cell hlt2
          have hadd := add_any (w.heap.size + 1) (Z n) (fun j => cntTo Z j n) wr (fun j _ => by have := cntTo_bd Z j n; omega) hT.counts
          go_wp2_with (go_at_call 10; refine hadd.mono ?_; rintro e w' ⟨rfl, hA⟩)
          go_roundw
          case rel => exact ⟨n + 1, by omega, by go_num, tally_step hT hA⟩
          case measure => simp [intOf]; omega
        · obtain rfl : n = k := by omega
          have hH := hist_start hT
          have hsz := hT.size
          clear hT
          go_wp2
          clear hsz
          go_loopw [8, 9] (fun kn i wq => ∃ m : Nat, m ≤ n ∧ i = .int .i64 ((m : Int) - 1) ∧ kn = .int .i64 (knownTo Z n - knownTo Z m) ∧ Hist w w.heap.size n Z m wq) (fun _ i _ => (intOf i + 1).toNat)
          case atStart => exact ⟨n, Nat.le_refl _, rfl, by simp, hH⟩
          case round =>
            clear hH
            obtain ⟨m, hm, hi, rfl, hH⟩ := hrel
            cases m with
            | zero =>
              have c0 := hH.counts.cell (i := 0) (by omega)
              have c1 := hH.counts.cell (i := 1) (by omega)
              have c2 := hH.counts.cell (i := 2) (by omega)
              have c3 := hH.counts.cell (i := 3) (by omega)
              have hh : wr.rowIs (w.heap.size + 2) 31 4 (fun j => .int .i64 (cntTo Z j n)) := hH.hist.congr fun j _ => by simp [cntTo]
              have d0 := hh.cell (i := 0) (by omega)
              have d1 := hh.cell (i := 1) (by omega)
              have d2 := hh.cell (i := 2) (by omega)
              have d3 := hh.cell (i := 3) (by omega)
              have b0 := cntTo_bd Z 0 n
              have b1 := cntTo_bd Z 1 n
              have b2 := cntTo_bd Z 2 n
              have b3 := cntTo_bd Z 3 n
              have hbel := hH.below
              rw [show (((0 : Nat) : Int) - 1) = -1 from by omega] at hi
              rw [show knownTo Z n - knownTo Z 0 = cntTo Z 0 n + cntTo Z 1 n + cntTo Z 2 n + cntTo Z 3 n from by simp [knownTo, cntTo]]
              subst hi
              clear hH hh
              generalize cntTo Z 0 n = e0 at *
              generalize cntTo Z 1 n = e1 at *
              generalize cntTo Z 2 n = e2 at *
              generalize cntTo Z 3 n = e3 at *
              go_wp2
              go_ret
              exact ⟨rfl, hbel⟩
            | succ m =>
              rw [show (((m + 1 : Nat) : Int) - 1) = (m : Int) from by omega] at hi
              subst hi
              have hcz := hH.nums.cell (i := m) (by omega)
              have hm1 : (m : Int) < (n : Int) := by omega
              by_cases hv : 0 ≤ Z m ∧ Z m < 4
              · obtain ⟨v, hv'⟩ : ∃ v : Nat, Z m = (v : Int) := ⟨(Z m).toNat, by omega⟩
                have hcv := hH.hist.cell (i := v) (by omega)
                have hfv := hH.hist.frozen v
                have HH := hist_in hH hv'
                have hks := knownTo_succ_in Z m hv
                have bk := cntTo_bd Z v n
                have bm := cntTo_bd Z v (m + 1)
                have bmo := cntTo_mono Z v hm
                have bkn : 0 ≤ knownTo Z n - knownTo Z (m + 1) ∧ knownTo Z n - knownTo Z (m + 1) ≤ 4 * n := by
                  have a0 := cntTo_mono Z 0 hm
                  have a1 := cntTo_mono Z 1 hm
                  have a2 := cntTo_mono Z 2 hm
                  have a3 := cntTo_mono Z 3 hm
                  have b0 := cntTo_bd Z 0 n
                  have b1 := cntTo_bd Z 1 n
                  have b2 := cntTo_bd Z 2 n
                  have b3 := cntTo_bd Z 3 n
                  have b0' := cntTo_bd Z 0 (m + 1)
                  have b1' := cntTo_bd Z 1 (m + 1)
                  have b2' := cntTo_bd Z 2 (m + 1)
                  have b3' := cntTo_bd Z 3 (m + 1)
                  unfold knownTo
                  omega
                rw [hv'] at hcz
                have hv4 : (v : Int) < 4 := by omega
                have HK : Hid (knownTo Z n - knownTo Z (m + 1) + 1 = knownTo Z n - knownTo Z m) := by show _ = _; omega
                clear hv hv' hH hks
                go_wp2
                go_roundw
                case rel => exact ⟨m, by omega, by go_num, by rw [HK.out], HH⟩
                case measure => simp [intOf]
              · have HH := hist_out hH hv
                have hks := knownTo_succ_out Z m hv
                have HK : Hid (knownTo Z n - knownTo Z (m + 1) = knownTo Z n - knownTo Z m) := by show _ = _; omega
                clear hH hks
                by_cases h0 : 0 ≤ Z m
                · have h4 : 4 ≤ Z m := by omega
                  clear hv
                  go_wp2
                  go_roundw
                  case rel => exact ⟨m, by omega, by go_num, by rw [HK.out], HH⟩
                  case measure => simp [intOf]
                · clear hv
                  go_wp2
                  go_roundw
                  case rel => exact ⟨m, by omega, by go_num, by rw [HK.out], HH⟩
                  case measure => simp [intOf]

set_option maxHeartbeats 1000000 in
theorem walk_nil (w : World) : Calls Trym.prog 4 #[.slice none 0 0] w fun e w' => e = .returned (.bool true) ∧ Below w.heap.size w w' := by
  have hnn := fun (a : Option Addr) (l c : Nat) (w : World) => run_neq_slice_nil (P := Trym.prog) w 26 3 a l c Trym.underlying26
  go_enter Trym.func4, Trym.ntmps4
  go_wp2_with (go_at_call 9; refine (bytes9 _ _ _ _ (by omega)).mono ?_; rintro e w' ⟨rfl, rfl⟩)
  refine wp_loop_rounds 1 ?_
  rw [rounds_succ]
  go_wp2
  refine wp_loop_rounds 1 ?_
  rw [rounds_succ]
  go_wp2
  go_ret
  exact ⟨rfl, ((Below.refl _ _).alloc (Nat.le_refl _) _).alloc (by simp) _⟩

set_option maxHeartbeats 1000000 in
theorem walk_long (a : Option Addr) (len cap : Nat) (w : World) (hl : 131072 < len) (hm : len ≤ 9223372036854775807) : Calls Trym.prog 4 #[.slice a len cap] w fun e w' => e = .returned (.bool true) ∧ Below w.heap.size w w' := by
  by_cases hd : len ≤ 1048576
  · go_enter Trym.func4, Trym.ntmps4
    go_wp2_with (go_at_call 9; refine (bytes9 _ _ _ _ (by omega)).mono ?_; rintro e w' ⟨rfl, rfl⟩)
    go_ret
    exact ⟨rfl, Below.refl _ _⟩
  · go_enter Trym.func4, Trym.ntmps4
    go_wp2_with (go_at_call 9; refine (bytes9 _ _ _ _ (by omega)).mono ?_; rintro e w' ⟨rfl, rfl⟩)
    go_ret
    exact ⟨rfl, Below.refl _ _⟩
end Go.Proofs.Qxb6603347aMods.fnCountsAddTally
