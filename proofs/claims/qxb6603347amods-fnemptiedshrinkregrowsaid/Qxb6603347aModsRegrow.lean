import Derived.Test.Qxb6603347aModsEmptyCalls
namespace Go.Proofs.Qxb6603347aMods.Emptied
open Go.RowKit

/-- What the second resizing hands back, for the checks: n empty slices at O, with the capacities C below 'cap'. -/
structure Back (D : Nat) (w : World) (n cap : Nat) (C : Nat → Nat) (O : Nat) (A' : Nat → Option Addr) (C' : Nat → Nat) (w' : World) : Prop where
  cell : ∀ i, i < n → w'.cell? ⟨O, i, none⟩ = some (.slice (A' i) 0 (C' i))
  same : ∀ i, i < cap → C' i = C i
  below : Below D w w'

def AnyRet (D : Nat) (w : World) (n cap : Nat) (C : Nat → Nat) (e : Ending) (w' : World) : Prop :=
  ∃ O oc A' C', e = .returned (.slice (some ⟨O, 0, none⟩) n oc) ∧ n ≤ oc ∧ Back D w n cap C O A' C' w'

theorem emptied_any (B len cap n : Nat) (A : Nat → Option Addr) (L C : Nat → Nat) (w : World) (hcap : cap ≤ 131072) (hn : n ≤ 65536) (hr : w.rowIs B 26 cap (fun i => .slice (A i) (L i) (C i))) :
    Calls Trym.prog 14 #[.slice (some ⟨B, 0, none⟩) len cap, .int .i64 n] w (AnyRet B w n cap C) := by
  by_cases h : n ≤ cap
  · refine (emptied_in B len cap n A L C w hcap h hr).mono ?_
    rintro e w' ⟨rfl, hrow, ho⟩
    refine ⟨B, cap, A, C, rfl, h, fun i hi => ?_, fun _ _ => rfl, ho.below (Nat.le_refl _)⟩
    have := hrow.cell (i := i) (by omega)
    simpa [hi] using this
  · refine (emptied_out w.heap.size (some ⟨B, 0, none⟩) len cap n A L C w rfl hn (by omega) (fun h => by cases h) (fun b hb j hj => by cases hb; rw [Addr.add_lit, Nat.zero_add]; exact hr.cell hj)).mono ?_
    rintro e w' ⟨ncap, rfl, hnc, hrow, -, hbel⟩
    refine ⟨w.heap.size, ncap, fun i => if i < cap then A i else none, fun i => if i < cap then C i else 0, rfl, hnc, fun i hi => ?_, fun i hi => by simp [hi], hbel.mono (Nat.le_of_lt hr.lt)⟩
    have := hrow.cell (i := i) (by omega)
    rw [this]
    by_cases h : i < cap <;> simp [h]

theorem emptied_any_nil (n : Nat) (w : World) (hn : n ≤ 65536) (h0 : 0 < n) :
    Calls Trym.prog 14 #[.slice none 0 0, .int .i64 n] w (AnyRet w.heap.size w n 0 (fun _ => 0)) := by
  refine (emptied_out w.heap.size none 0 0 n (fun _ => none) (fun _ => 0) (fun _ => 0) w rfl hn h0 (fun _ => rfl) (fun b hb => by cases hb)).mono ?_
  rintro e w' ⟨ncap, rfl, hnc, hrow, -, hbel⟩
  refine ⟨w.heap.size, ncap, fun i => none, fun i => 0, rfl, hnc, fun i hi => ?_, fun i hi => rfl, hbel⟩
  have := hrow.cell (i := i) (by omega)
  simpa using this

/-- The list of capacities, k of them filled. -/
structure Caps (w : World) (B len : Nat) (C : Nat → Nat) (k : Nat) (wr : World) : Prop where
  caps : wr.rowIs B 3 len (fun j => .int .i64 (if j < k then ((C j : Nat) : Int) else 0))
  size : wr.heap.size = B + 1
  below : Below B w wr

theorem caps_start (w : World) (len : Nat) (C : Nat → Nat) : Caps w w.heap.size len C 0 (w.alloc (.cells (madeCells #[.int .i64 0] len) 3)) :=
  ⟨(World.rowIs_made w (.int .i64 0) len 3).congr fun j _ => by simp, by simp, (Below.refl _ _).alloc (Nat.le_refl _) _⟩

theorem caps_step {w wr : World} {B len k : Nat} {C : Nat → Nat} (h : Caps w B len C k wr) : Caps w B len C (k + 1) (wr.setCell ⟨B, k, none⟩ (.int .i64 (C k : Nat))) := by
  refine ⟨?_, ?_, h.below.setCell (by simp) _⟩
  · refine (h.caps.set k (.int .i64 (C k : Nat))).congr fun j _ => ?_
    by_cases e : j = k
    · subst e; simp
    · by_cases h : j < k
      · simp [e, h, show j < k + 1 by omega]
      · simp [e, h, show ¬ j < k + 1 by omega]
  · rw [← h.size]; simp [World.setCell]

/-- What the last loop reads. -/
structure Last (w : World) (B len : Nat) (C : Nat → Nat) (m O : Nat) (A' : Nat → Option Addr) (C' : Nat → Nat) (wr : World) : Prop where
  caps : wr.rowIs B 3 len (fun j => .int .i64 (C j : Nat))
  cell : ∀ i, i < m → wr.cell? ⟨O, i, none⟩ = some (.slice (A' i) 0 (C' i))
  same : ∀ i, i < len → C' i = C i
  below : Below B w wr

theorem Last.drewN {w : World} {B len : Nat} {C : Nat → Nat} {m O : Nat} {A' : Nat → Option Addr} {C' : Nat → Nat} {wr : World} (h : Last w B len C m O A' C' wr) (n : Nat) : Last w B len C m O A' C' (wr.drewN n) :=
  ⟨h.caps, h.cell, h.same, ⟨h.below.os, h.below.tape, h.below.output, h.below.size, h.below.block⟩⟩

theorem last_of {w wr w1 w2 : World} {B D len cap m O : Nat} {C C1 : Nat → Nat} {A' : Nat → Option Addr} {C' : Nat → Nat} (hK : Caps w B len C len wr) (hb1 : Below (B + 1) wr w1) (hD : B + 1 ≤ D) (hB : Back D w1 m cap C1 O A' C' w2) (hcap : len ≤ cap) (hC : ∀ i, i < len → C1 i = C i) : Last w B len C m O A' C' w2 := by
  have hb := hb1.trans (hB.below.mono hD)
  exact ⟨(hK.caps.of_block (hb.block _ (by omega))).congr fun j hj => by simp [hj], hB.cell, fun i hi => by rw [hB.same i (by omega), hC i hi], hK.below.trans (hb.mono (by omega))⟩

theorem outer_of {w wr : World} {x : Addr} {len : Nat} {A : Nat → Option Addr} {L C : Nat → Nat} (hc : Outer w x len A L C) (hb : Below w.heap.size w wr) : Outer wr x len A L C :=
  fun i hi => ⟨(hb.cell (lt_of_cell (hc i hi).1)).trans (hc i hi).1, (hc i hi).2⟩

theorem shrunk {w : World} {B cap n : Nat} {A : Nat → Option Addr} {L C : Nat → Nat} (h : w.rowIs B 26 cap (fun i => if i < n then .slice (A i) 0 (C i) else .slice (A i) (L i) (C i))) :
    w.rowIs B 26 cap (fun i => .slice (A i) ((fun i => if i < n then 0 else L i) i) (C i)) :=
  h.congr fun j _ => by by_cases h : j < n <;> simp [h]

set_option maxRecDepth 20000 in
set_option maxHeartbeats 2000000 in
theorem regrow_in (x : Addr) (len cap n m : Nat) (A : Nat → Option Addr) (L C : Nat → Nat) (w : World) (hm : len ≤ 9223372036854775807) (hc : Outer w x len A L C) (hn : n ≤ 65536) (hmm : m ≤ 65536) (hnl : n ≤ len) :
    Calls Trym.prog 6 #[.slice (some x) len cap, .int .i64 n, .int .i64 m] w fun e w' => e = .returned (.bool true) ∧ Below w.heap.size w w' := by
  have hb15 := bytes15 x len cap A L C n m w hm hc
  have hf12 := fits12 x len cap A L C w hm hc
  go_enter Trym.func6, Trym.ntmps6
  go_wp2_with fail
  refine hb15.mono ?_
  rintro e w' ⟨⟨b, rfl, -⟩, rfl⟩
  cases b with
  | false =>
    go_wp2_with fail
    go_ret
    exact ⟨rfl, Below.refl _ _⟩
  | true =>
  go_wp2_with fail
  refine hf12.mono ?_
  rintro e w' ⟨⟨b, rfl, hb⟩, rfl⟩
  cases b with
  | false =>
    go_wp2_with fail
    go_ret
    exact ⟨rfl, Below.refl _ _⟩
  | true =>
  have hl := hb rfl
  clear hb15 hf12 hb hm
  have hmk := run_make_row' (P := Trym.prog) 26 3 (.int .i64 0) 8 Trym.underlying26 info3 rfl .i64 .i64 len (by omega) (by omega)
  go_wp2_with fail
  clear hmk
  go_loopw [8] (fun i wr => ∃ k : Nat, k ≤ len ∧ i = .int .i64 k ∧ Caps w w.heap.size len C k wr) (fun i _ => len - (intOf i).toNat)
  case atStart => exact ⟨0, Nat.zero_le _, rfl, caps_start _ _ _⟩
  case round =>
    obtain ⟨k, hk, rfl, hM⟩ := hrel
    by_cases hlt : k < len
    · have hcx := ((outer_of hc hM.below) k hlt).1
      have hcc := hM.caps.cell hlt
      have hfc := hM.caps.frozen k
      have HS := caps_step hM
      clear hM
      go_wp2_with fail
      go_roundw
      case rel => exact ⟨k + 1, by omega, by go_num, HS⟩
      case measure => simp [intOf]; omega
    · obtain rfl : k = len := by omega
      have hO := outer_of hc hM.below
      have hcp := copied (w.heap.size + 1) x k cap A L C wr hM.size hl hO
      go_wp2_with (go_at_call 13; refine hcp.mono ?_; rintro e w1 ⟨rfl, hrow1, hsz1, hbel1⟩)
      have hem := emptied_in (w.heap.size + 1) k k n A L C w1 hl hnl hrow1
      clear hO hcp hsz1 hrow1 hc
      refine hem.mono ?_
      rintro e w2 ⟨rfl, hrow2, honly⟩
      have hbel2 := hbel1.trans (honly.below (Nat.le_refl _))
      have hem2 := emptied_any (w.heap.size + 1) n k m A (fun i => if i < n then 0 else L i) C w2 hl hmm (shrunk hrow2)
      clear hbel1 hrow2 honly hem
      go_wp2_with fail
      refine hem2.mono ?_
      rintro e w3 ⟨O, oc, A', C', rfl, hoc, hB⟩
      have hF := last_of hM hbel2 (Nat.le_refl _) hB (Nat.le_refl _) (fun _ _ => rfl)
      clear hM hbel2 hB hem2
      go_wp2_with fail
      clear wr
      go_loopw [11] (fun i wr => ∃ q : Nat, q ≤ m ∧ i = .int .i64 q ∧ Last w w.heap.size k C m O A' C' wr) (fun i _ => m - (intOf i).toNat)
      case atStart => exact ⟨0, Nat.zero_le _, rfl, hF⟩
      case round =>
        clear hF
        obtain ⟨q, hq, rfl, hF⟩ := hrel
        by_cases hlt2 : q < m
        · have ho := hF.cell q hlt2
          have hoq : (q : Int) < (oc : Int) := by omega
          by_cases hqk : q < k
          · have hca := hF.caps.cell (i := q) hqk
            rw [hF.same q hqk] at ho
            have hqk' : (q : Int) < (k : Int) := by omega
            go_wp2_with fail
            go_quiet (fail)
            go_wp2_with fail
            go_roundw
            case rel => exact ⟨q + 1, by omega, by go_num, hF.drewN _⟩
            case measure => simp [intOf]; omega
          · have hd : decide ((q : Int) < (k : Int)) = false := by simp; omega
            go_wp2_with fail
            go_quiet (fail)
            go_wp2_with fail
            go_roundw
            case rel => exact ⟨q + 1, by omega, by go_num, hF.drewN _⟩
            case measure => simp [intOf]; omega
        · have hb := hF.below
          clear hF
          go_wp2_with fail
          go_ret
          exact ⟨rfl, hb⟩
end Go.Proofs.Qxb6603347aMods.Emptied
