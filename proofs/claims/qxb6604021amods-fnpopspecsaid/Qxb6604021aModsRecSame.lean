import Derived.Test.Qxb6604021aModsRecCalls
namespace Go.Proofs.Qxb6604021aMods.Recs
open Go.RowKit
open Grid (Grid)
open Heap (Rec cnt IsHeap upd swap Matched)

theorem info4 : (Trym.prog.info? 4).map (fun i => (i.zero, i.size, i.bytes)) = some (some (.bool false), 1, 1) := by kernel_rfl

/-- Two records compared. -/
theorem eql_rec (a b : Rec) (w : World) : (binOp .eql 57 (.agg #[.int .i64 a.1, .int .u32 a.2.1, .int .u32 a.2.2]) (.agg #[.int .i64 b.1, .int .u32 b.2.1, .int .u32 b.2.2])).run Trym.prog w = .ok (.bool (decide (a = b))) w := by
  obtain ⟨a1, a2, a3⟩ := a
  obtain ⟨b1, b2, b3⟩ := b
  simp [go_sem]
  by_cases h1 : a1 = b1 <;> by_cases h2 : a2 = b2 <;> by_cases h3 : a3 = b3 <;> simp [h1, h2, h3]

/-- The marks: which of b's have been matched. -/
structure Marks (w : World) (n : Nat) (U : Nat → Bool) (wr : World) : Prop where
  row : wr.rowIs w.heap.size 4 n (fun j => .bool (U j))
  below : Below w.heap.size w wr

theorem Marks.drewN {w wr : World} {n : Nat} {U : Nat → Bool} (h : Marks w n U wr) (q : Nat) : Marks w n U (wr.drewN q) := ⟨h.row, ⟨h.below.os, h.below.tape, h.below.output, h.below.size, h.below.block⟩⟩
theorem Marks.set {w wr : World} {n : Nat} {U : Nat → Bool} (h : Marks w n U wr) (j : Nat) : Marks w n (Heap.mark U j) (wr.setCell ⟨w.heap.size, j, none⟩ (.bool true)) := by
  refine ⟨(h.row.set j (.bool true)).congr fun i _ => ?_, h.below.setCell (Nat.le_refl _) _⟩
  by_cases e : i = j
  · subst e; simp [Heap.mark]
  · simp [Heap.mark, e]

/-- The search for a match of a's k-th record among b's first q. -/
def Search (w : World) (a b : Nat → Rec) (n k : Nat) (U : Nat → Bool) (q : Nat) (f : Value) (wr : World) : Prop :=
  (f = .bool false ∧ Marks w n U wr ∧ ∀ j, j < q → ¬ (U j = false ∧ a k = b j)) ∨
  (f = .bool true ∧ ∃ j, j < n ∧ U j = false ∧ a k = b j ∧ Marks w n (Heap.mark U j) wr)

set_option maxRecDepth 20000 in
set_option maxHeartbeats 4000000 in
theorem same24 (x y : Addr) (n c1 c2 : Nat) (a b : Nat → Rec) (w : World) (hn : n ≤ 4096) (ha : Recs w x n a) (hb : Recs w y n b) (hp : ∀ r, cnt a r n = cnt b r n) :
    Calls Trym.prog 24 #[.slice (some x) n c1, .slice (some y) n c2] w fun e w' => e = .returned (.bool true) ∧ Below w.heap.size w w' := by
  have hmk := run_make_row' (P := Trym.prog) 67 4 (.bool false) 1 Trym.underlying67 info4 rfl .i64 .i64 n (by omega) (by omega)
  have h0 : Marks w n (fun _ => false) (w.alloc (.cells (madeCells #[.bool false] n) 4)) := ⟨World.rowIs_made _ _ _ _, (Below.refl _ _).alloc (Nat.le_refl _) _⟩
  have HP : Hid (∀ r, cnt a r n = cnt b r n) := hp
  clear hp
  go_enter Trym.func24, Trym.ntmps24
  go_wp2_with fail
  clear hmk
  go_loopw [6] (fun i wr => ∃ (k : Nat) (U : Nat → Bool), k ≤ n ∧ i = .int .i64 k ∧ Marks w n U wr ∧ Matched a b n k U) (fun i _ => n - (intOf i).toNat)
  case atStart => exact ⟨0, _, Nat.zero_le _, rfl, h0, Heap.matched_start a b n⟩
  case round =>
    clear h0
    obtain ⟨k, U, hk, rfl, hM, hX⟩ := hrel
    by_cases hlt : k < n
    · have HX : Hid (Matched a b n k U) := hX
      clear hX
      go_wp2_with fail
      obtain ⟨wo, hwo⟩ : ∃ wo : World, wo = wr := ⟨_, rfl⟩
      rw [← hwo] at hM
      go_loopw [7, 8] (fun f j wq => ∃ q : Nat, q ≤ n ∧ j = .int .i64 q ∧ Search w a b n k U q f wq) (fun _ j _ => n - (intOf j).toNat)
      case atStart => exact ⟨0, Nat.zero_le _, rfl, .inl ⟨rfl, by rw [← hwo]; exact hM, fun j hj => by omega⟩⟩
      case round =>
        clear hM hwo
        obtain ⟨q, hq, rfl, ⟨rfl, hM, hno⟩ | ⟨rfl, j, hj, hUj, hej, hM⟩⟩ := hrel
        · by_cases hql : q < n
          · have hA := recs_below ha hM.below
            have hBr := recs_below hb hM.below
            have a0 := hA.c0 k hlt
            have a1 := hA.c1 k hlt
            have a2 := hA.c2 k hlt
            have b0 := hBr.c0 q hql
            have b1 := hBr.c1 q hql
            have b2 := hBr.c2 q hql
            have m0 := hM.row.cell hql
            have m1 := hM.row.frozen q
            have hq' : (q : Int) < (n : Int) := by omega
            have hk' : (k : Int) < (n : Int) := by omega
            have HM : Hid (Marks w n U wr) := hM
            have HN : Hid (∀ j, j < q → ¬ (U j = false ∧ a k = b j)) := hno
            have heq := eql_rec (a k) (b q)
            clear hA hBr hM hno
            cases hUq : U q with
            | true =>
              rw [hUq] at m0
              have HN' : ∀ j, j < q + 1 → ¬ (U j = false ∧ a k = b j) := fun j hj => by
                by_cases e : j = q
                · subst e; simp [hUq]
                · exact HN.out j (by omega)
              clear hUq
              go_wp2_with fail
              go_quiet (fail)
              go_wp2_with fail
              go_roundw
              case rel => exact ⟨q + 1, by omega, by go_num, .inl ⟨rfl, HM.out.drewN _, HN'⟩⟩
              case measure => simp [intOf]; omega
            | false =>
              rw [hUq] at m0
              by_cases he : a k = b q
              · have hde : decide (a k = b q) = true := by simp [he]
                rw [hde] at heq
                have HE : Hid (U q = false ∧ a k = b q) := ⟨hUq, he⟩
                clear hUq he hde
                go_wp2_with fail
                go_quiet (fail)
                go_wp2_with fail
                go_roundw
                case rel => exact ⟨q + 1, by omega, by go_num, .inr ⟨rfl, q, hql, HE.out.1, HE.out.2, (HM.out.drewN _).set q⟩⟩
                case measure => simp [intOf]; omega
              · have hde : decide (a k = b q) = false := by simp [he]
                rw [hde] at heq
                have HN' : ∀ j, j < q + 1 → ¬ (U j = false ∧ a k = b j) := fun j hj => by
                  by_cases e : j = q
                  · subst e; exact fun h => he h.2
                  · exact HN.out j (by omega)
                clear hUq he hde
                go_wp2_with fail
                go_quiet (fail)
                go_wp2_with fail
                go_roundw
                case rel => exact ⟨q + 1, by omega, by go_num, .inl ⟨rfl, HM.out.drewN _, HN'⟩⟩
                case measure => simp [intOf]; omega
          · obtain rfl : q = n := by omega
            obtain ⟨j, hj, hU, he⟩ := Heap.matched_next HX.out HP.out hlt
            exact absurd ⟨hU, he⟩ (hno j hj)
        · have HX' : Matched a b n (k + 1) (Heap.mark U j) := Heap.matched_step HX.out hj hUj hej
          clear hej hUj
          by_cases hql : q < n
          · go_wp2_with fail
            go_roundw
            case rel => exact ⟨k + 1, _, by omega, by go_num, hM, HX'⟩
            case measure => simp [intOf]; omega
          · go_wp2_with fail
            go_roundw
            case rel => exact ⟨k + 1, _, by omega, by go_num, hM, HX'⟩
            case measure => simp [intOf]; omega
    · have hbl := hM.below
      clear hM hX
      go_wp2_with fail
      go_ret
      exact ⟨rfl, hbl⟩

set_option maxHeartbeats 1000000 in
theorem same24_nil (x : Addr) (w : World) : Calls Trym.prog 24 #[.slice (some x) 0 0, .slice none 0 0] w fun e w' => e = .returned (.bool true) ∧ Below w.heap.size w w' := by
  have hmk := run_make_row' (P := Trym.prog) 67 4 (.bool false) 1 Trym.underlying67 info4 rfl .i64 .i64 0 (by omega) (by omega)
  simp only [Int.natCast_zero] at hmk
  go_enter Trym.func24, Trym.ntmps24
  go_wp2_with fail
  refine wp_loop_rounds 1 ?_
  rw [rounds_succ]
  go_wp2_with fail
  go_ret
  exact ⟨rfl, (Below.refl _ _).alloc (Nat.le_refl _) _⟩
end Go.Proofs.Qxb6604021aMods.Recs
