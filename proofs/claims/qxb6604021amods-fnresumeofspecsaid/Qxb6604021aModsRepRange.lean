import Derived.Test.Qxb6604021aModsRepCalls
import Derived.Deep.LoopGhost
namespace Go.Proofs.Qxb6604021aMods.Reps
open Go.RowKit

/-- A loop over the map of reports: 'seen': the numbers of the reports that have come. -/
structure Ranging (w0 : World) (M r n : Nat) (V : Nat → Value) (seen : Array Nat) (wr : World) : Prop where
  map : MapIs wr M V n
  iter : ∃ c0, n ≤ c0 ∧ wr.heap[r]? = some (.mapIter (some M) n seen c0)
  below : Below r w0 wr

theorem Ranging.alloc {w0 wr : World} {M r n : Nat} {V : Nat → Value} {seen : Array Nat} (h : Ranging w0 M r n V seen wr) (o : Obj) : Ranging w0 M r n V seen (wr.alloc o) := by
  obtain ⟨c0, hc, hi⟩ := h.iter
  have hlt : r < wr.heap.size := by
    rcases Nat.lt_or_ge r wr.heap.size with h1 | h1
    · exact h1
    · simp [Array.getElem?_eq_none h1] at hi
  have hm := h.map
  unfold MapIs at hm
  have hlm : M < wr.heap.size := by
    rcases Nat.lt_or_ge M wr.heap.size with h1 | h1
    · exact h1
    · simp [Array.getElem?_eq_none h1] at hm
  exact ⟨by unfold MapIs; rw [Below.heap_alloc _ _ _ hlm]; exact hm, ⟨c0, hc, by rw [Below.heap_alloc _ _ _ hlt]; exact hi⟩, h.below.alloc (by omega) o⟩

theorem mapEs_born (V : Nat → Value) (n : Nat) : ((mapEs V n).toList.map (·.born)).Nodup := by
  have : (mapEs V n).toList.map (·.born) = List.range n := by
    simp [mapEs, Function.comp_def]
  rw [this]
  exact List.nodup_range

/-- What is still to come. -/
def toCome (V : Nat → Value) (n : Nat) (seen : Array Nat) : Nat := (leftOf (mapEs V n) seen).size

/-- 'range m'. -/
theorem range_run {w : World} {M n : Nat} {V : Nat → Value} (h : MapIs w M V n) :
    ∃ w', (Instr.range 30 (.map (some M))).run Trym.prog w = .ok (.pointer (some ⟨w.heap.size, 0, none⟩)) w' ∧ Ranging w M w.heap.size n V #[] w' := by
  have hm := h
  unfold MapIs at hm
  have hlm : M < w.heap.size := by
    rcases Nat.lt_or_ge M w.heap.size with h1 | h1
    · exact h1
    · simp [Array.getElem?_eq_none h1] at hm
  refine ⟨_, run_range_map w 30 26 69 M (mapEs V n) n Trym.underlying30 hm, ?_, ⟨n, Nat.le_refl _, Go.Deep.blk_alloc_new _ _⟩, (Below.refl _ _).alloc (Nat.le_refl _) _⟩
  unfold MapIs
  rw [Below.heap_alloc _ _ _ hlm]
  exact hm

/-- 'next': nothing is left; or one that has not come, whichever. -/
theorem next_run {w0 w : World} {M r n : Nat} {V : Nat → Value} {seen : Array Nat} (h : Ranging w0 M r n V seen w) (hMr : M ≠ r) (ty : TypeId) :
    ((∀ i, i < n → seen.contains i = true) ∧ (Instr.next (.pointer (some ⟨r, 0, none⟩)) false ty).run Trym.prog w = .ok (.tuple #[.bool false]) w) ∨
    ∃ i w', i < n ∧ toCome V n (seen.push i) < toCome V n seen ∧ (Instr.next (.pointer (some ⟨r, 0, none⟩)) false ty).run Trym.prog w = .ok (.tuple #[.bool true, .int .u64 i, V i]) w' ∧ Ranging w0 M r n V (seen.push i) w' ∧
      (Instr.entry (.pointer (some ⟨r, 0, none⟩))).run Trym.prog w' = .ok (.tuple #[.int .u64 i, V i]) w' := by
  obtain ⟨c0, hc, hi⟩ := h.iter
  have hm := h.map
  unfold MapIs at hm
  rcases run_next_at (P := Trym.prog) w ty r M n c0 seen (mapEs V n) n hi hm (fun x hx => by obtain ⟨i, hi, rfl⟩ := mapEs_mem hx; exact hi) hc with ⟨h0, hrun⟩ | ⟨e, he, w1, hw1, hrun⟩
  · refine .inl ⟨fun i hi => ?_, hrun⟩
    have := all_seen (mapEs V n) seen h0 { key := .int .u64 i, val := V i, born := i } (by simp [mapEs]; exact ⟨i, hi, rfl, rfl, rfl⟩)
    exact this
  · have hshr := left_shrinks (mapEs V n) seen e he
    have hel := (mem_left he).1
    obtain ⟨i, hin, rfl⟩ := mapEs_mem hel
    have hlt : r < w.heap.size := by
      rcases Nat.lt_or_ge r w.heap.size with h1 | h1
      · exact h1
      · simp [Array.getElem?_eq_none h1] at hi
    have hw : w1.heap = w.heap ∧ w1.os = w.os ∧ w1.tape = w.tape ∧ w1.output = w.output := by rcases hw1 with rfl | rfl <;> exact ⟨rfl, rfl, rfl, rfl⟩
    have hit : (Go.ChangeMaps.setBlock w1 r (.mapIter (some M) n (seen.push i) n)).heap[r]? = some (.mapIter (some M) n (seen.push i) n) := by
      simp [Go.ChangeMaps.setBlock, hw.1, hlt]
    have hmp : (Go.ChangeMaps.setBlock w1 r (.mapIter (some M) n (seen.push i) n)).heap[M]? = some (.map (mapEs V n) n) := by
      rw [← hm]
      simp [Go.ChangeMaps.setBlock, hw.1, hMr.symm]
    refine .inr ⟨i, _, hin, hshr, hrun, ⟨hmp, ⟨n, Nat.le_refl _, hit⟩, ?_⟩, run_entry_at _ r M n seen (mapEs V n) n _ hit hmp hel (mapEs_born V n)⟩
    refine h.below.trans ⟨hw.2.1, hw.2.2.1, hw.2.2.2, by simp [Go.ChangeMaps.setBlock, hw.1], fun k hk => ?_⟩
    simp [Go.ChangeMaps.setBlock, hw.1, show ¬ r = k by omega]

/-- THE LAW AT THE OPERATION. -/
theorem wpList_next_reps (w : World) {ops : Array Oper} {rest : List Oper} {o : Oper} {a : Act} {Q : Exit → Act → World → Prop}
    (hg : o.guard = none) (it : Operand) (hop : o.op = Op.next it false) (w0 : World) (M r n : Nat) (T : Nat → Int) (S : Nat → ByteArray) (P I : Nat → Int) (seen : Array Nat)
    (hit : a.eval it = .pointer (some ⟨r, 0, none⟩)) (h : Ranging w0 M r n (repV T S P I) seen w) (hMr : M ≠ r)
    (hDone : (∀ i, i < n → i ∈ seen) → wpList Trym.prog ops Q rest (a.put o.dst (.tuple #[.bool false])) w)
    (hMore : ∀ i w', i < n → toCome (repV T S P I) n (seen.push i) < toCome (repV T S P I) n seen → Ranging w0 M r n (repV T S P I) (seen.push i) w' →
      (Instr.entry (.pointer (some ⟨r, 0, none⟩))).run Trym.prog w' = .ok (.tuple #[.int .u64 i, .agg #[.int .u64 (T i), .string (S i), .int .u64 (P i), .int .u64 (I i)]]) w' →
      wpList Trym.prog ops Q rest (a.put o.dst (.tuple #[.bool true, .int .u64 i, .agg #[.int .u64 (T i), .string (S i), .int .u64 (P i), .int .u64 (I i)]])) w') :
    wpList Trym.prog ops Q (o :: rest) a w := by
  refine wpList_plain hg fun K' hK' => ?_
  unfold Oper.wp
  rcases next_run h hMr o.type with ⟨h0, hrun⟩ | ⟨i, w', hi, hlt, hrun, hrg, hen⟩
  · simp [execOp, hop, hit, hrun, Result.andThen]
    exact hK' _ _ (hDone fun i hi => by simpa using h0 i hi)
  · have e : repV T S P I i = .agg #[.int .u64 (T i), .string (S i), .int .u64 (P i), .int .u64 (I i)] := rfl
    rw [e] at hrun hen
    simp [execOp, hop, hit, hrun, Result.andThen]
    exact hK' _ _ (hMore i w' hi hlt hrg hen)
end Go.Proofs.Qxb6604021aMods.Reps
