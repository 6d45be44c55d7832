import Derived.Test.Qxb6603347aModsEmptyGuards
namespace Go.Proofs.Qxb6603347aMods.Emptied
open Go.RowKit

theorem lt_of_cell {w : World} {a : Addr} {v : Value} (h : w.cell? a = some v) : a.block < w.heap.size := by
  rcases Nat.lt_or_ge a.block w.heap.size with h1 | h1
  · exact h1
  · simp [World.cell?, Array.getElem?_eq_none h1] at h

theorem info26 : (Trym.prog.info? 26).map (fun i => (i.zero, i.size, i.bytes)) = some (some (.slice none 0 0), 1, 24) := by kernel_rfl
theorem info3 : (Trym.prog.info? 3).map (fun i => (i.zero, i.size, i.bytes)) = some (some (.int .i64 0), 1, 8) := by kernel_rfl

/-- A row that is being filled from the front: the first k cells hold what they shall, the others 'z'. -/
theorem fill_step {w wr : World} {B t len k : Nat} {f : Nat → Value} {z : Value} (hrow : wr.rowIs B t len (fun j => if j < k then f j else z)) (hB : B = w.heap.size) (hsz : wr.heap.size = w.heap.size + 1) (hbel : Below w.heap.size w wr) :
    (wr.setCell ⟨B, k, none⟩ (f k)).rowIs B t len (fun j => if j < k + 1 then f j else z) ∧
    (wr.setCell ⟨B, k, none⟩ (f k)).heap.size = w.heap.size + 1 ∧ Below w.heap.size w (wr.setCell ⟨B, k, none⟩ (f k)) := by
  refine ⟨?_, by simpa [World.setCell] using hsz, hbel.setCell (by simp [hB]) _⟩
  refine (hrow.set k (f k)).congr fun j _ => ?_
  by_cases e : j = k
  · subst e; simp
  · by_cases h : j < k
    · simp [e, h, show j < k + 1 by omega]
    · simp [e, h, show ¬ j < k + 1 by omega]

/-- What the copy of an outer slice leaves: a new row with the same slices. -/
structure Copied (w : World) (len : Nat) (f : Nat → Value) (w' : World) : Prop where
  row : w'.rowIs w.heap.size 26 len f
  size : w'.heap.size = w.heap.size + 1
  below : Below w.heap.size w w'

set_option maxHeartbeats 1000000 in
theorem copy13 (x : Addr) (len cap : Nat) (A : Nat → Option Addr) (L C : Nat → Nat) (w : World) (hl : len ≤ 131072) (hc : Outer w x len A L C) :
    Calls Trym.prog 13 #[.slice (some x) len cap] w fun e w' => e = .returned (.slice (some ⟨w.heap.size, 0, none⟩) len len) ∧ Copied w len (fun i => .slice (A i) (L i) (C i)) w' := by
  have hmk := run_make_row' (P := Trym.prog) 32 26 (.slice none 0 0) 24 Trym.underlying32 info26 rfl .i64 .i64 len (by omega) (by omega)
  have hnn := fun (a : Option Addr) (l c : Nat) (w : World) => Lib.run_eql_slice_nil (P := Trym.prog) w 32 26 a l c 0 0 Trym.underlying32
  go_enter Trym.func13, Trym.ntmps13
  go_wp2
  clear hmk hnn
  go_loopw [4] (fun i wr => ∃ k : Nat, k ≤ len ∧ i = .int .i64 k ∧ wr.rowIs w.heap.size 26 len (fun j => if j < k then .slice (A j) (L j) (C j) else .slice none 0 0) ∧ wr.heap.size = w.heap.size + 1 ∧ Below w.heap.size w wr) (fun i _ => len - (intOf i).toNat)
  case atStart => exact ⟨0, Nat.zero_le _, rfl, (World.rowIs_made _ _ _ _), by simp, (Below.refl _ _).alloc (Nat.le_refl _) _⟩
  case round =>
    obtain ⟨k, hk, rfl, hrow, hsz, hbel⟩ := hrel
    by_cases hlt : k < len
    · have hcx : wr.cell? (x.add k) = some (.slice (A k) (L k) (C k)) := (hbel.cell (lt_of_cell (hc k hlt).1)).trans (hc k hlt).1
      have hcy := hrow.cell hlt
      have hfy := hrow.frozen k
      have HS := fill_step (f := fun j => .slice (A j) (L j) (C j)) hrow rfl hsz hbel
      go_wp2
      go_roundw
      case rel => exact ⟨k + 1, by omega, by go_num, HS.1, HS.2.1, HS.2.2⟩
      case measure => simp [intOf]; omega
    · obtain rfl : k = len := by omega
      have HC : Copied w k (fun i => .slice (A i) (L i) (C i)) wr := ⟨hrow.congr fun j hj => by simp [hj], hsz, hbel⟩
      clear hrow hc hsz hbel
      go_wp2
      go_ret
      exact ⟨rfl, HC⟩

theorem copy13_nil (w : World) : Calls Trym.prog 13 #[.slice none 0 0] w fun e w' => e = .returned (.slice none 0 0) ∧ w = w' := by
  have hnn := fun (a : Option Addr) (l c : Nat) (w : World) => Lib.run_eql_slice_nil (P := Trym.prog) w 32 26 a l c 0 0 Trym.underlying32
  go_enter Trym.func13, Trym.ntmps13
  go_wp2
  go_ret
  exact ⟨rfl, rfl⟩

/-- w' is w but for block B. -/
structure Only (B : Nat) (w w' : World) : Prop where
  os : w'.os = w.os
  tape : w'.tape = w.tape
  output : w'.output = w.output
  size : w'.heap.size = w.heap.size
  other : ∀ k, k ≠ B → w'.heap[k]? = w.heap[k]?

theorem Only.refl (B : Nat) (w : World) : Only B w w := ⟨rfl, rfl, rfl, rfl, fun _ _ => rfl⟩
theorem Only.below {B D : Nat} {w w' : World} (h : Only B w w') (hD : D ≤ B) : Below D w w' := ⟨h.os, h.tape, h.output, by rw [h.size]; exact Nat.le_refl _, fun k hk => h.other k (by omega)⟩
theorem Only.setCell {B : Nat} {w w' : World} (h : Only B w w') (i : Nat) (v : Value) : Only B w (w'.setCell ⟨B, i, none⟩ v) :=
  ⟨h.os, h.tape, h.output, by rw [← h.size]; simp [World.setCell], fun k hk => (Below.heap_setCell _ _ _ _ hk).trans (h.other k hk)⟩

theorem empty_step {w wr : World} {B t len k : Nat} {f g : Nat → Value} (hrow : wr.rowIs B t len (fun j => if j < k then g j else f j)) (ho : Only B w wr) :
    (wr.setCell ⟨B, k, none⟩ (g k)).rowIs B t len (fun j => if j < k + 1 then g j else f j) ∧ Only B w (wr.setCell ⟨B, k, none⟩ (g k)) := by
  refine ⟨?_, ho.setCell _ _⟩
  refine (hrow.set k (g k)).congr fun j _ => ?_
  by_cases e : j = k
  · subst e; simp
  · by_cases h : j < k
    · simp [e, h, show j < k + 1 by omega]
    · simp [e, h, show ¬ j < k + 1 by omega]

set_option maxHeartbeats 1000000 in
theorem emptied16_in (B len cap n : Nat) (A : Nat → Option Addr) (L C : Nat → Nat) (w : World) (hcap : cap ≤ 131072) (hn : n ≤ cap) (hr : w.rowIs B 26 cap (fun i => .slice (A i) (L i) (C i))) :
    Calls Trym.prog 16 #[.slice (some ⟨B, 0, none⟩) len cap, .int .i64 n] w fun e w' => e = .returned (.slice (some ⟨B, 0, none⟩) n cap) ∧
      w'.rowIs B 26 cap (fun i => if i < n then .slice (A i) 0 (C i) else .slice (A i) (L i) (C i)) ∧ Only B w w' := by
  go_enter Trym.func16, Trym.ntmps16
  go_wp2
  go_loopw [24] (fun i wr => ∃ k : Nat, k ≤ n ∧ i = .int .i64 k ∧ wr.rowIs B 26 cap (fun j => if j < k then .slice (A j) 0 (C j) else .slice (A j) (L j) (C j)) ∧ Only B w wr) (fun i _ => n - (intOf i).toNat)
  case atStart => exact ⟨0, Nat.zero_le _, rfl, hr.congr fun j _ => by simp, Only.refl _ _⟩
  case round =>
    obtain ⟨k, hk, rfl, hrow, ho⟩ := hrel
    by_cases hlt : k < n
    · have hcx : wr.cell? ⟨B, k, none⟩ = some (.slice (A k) (L k) (C k)) := by have := hrow.cell (i := k) (by omega); simpa using this
      have hfy := hrow.frozen k
      have hkc : (k : Int) < (cap : Int) := by omega
      have HS := empty_step (f := fun j => .slice (A j) (L j) (C j)) (g := fun j => .slice (A j) 0 (C j)) hrow ho
      clear hrow
      go_wp2
      go_roundw
      case rel => exact ⟨k + 1, by omega, by go_num, HS.1, HS.2⟩
      case measure => simp [intOf]; omega
    · obtain rfl : k = n := by omega
      go_wp2
      go_ret
      exact ⟨rfl, hrow, ho⟩

/-- A new row made by an append that grows by zero values. -/
structure Grew (w : World) (need ncap : Nat) (f : Nat → Value) (w' : World) : Prop where
  cap : need ≤ ncap
  row : w'.rowIs w.heap.size 26 ncap f
  size : w'.heap.size = w.heap.size + 1
  below : Below w.heap.size w w'

/-- 'append(s, make([]T, m)...)', WHERE IT MUST GROW: T of one cell. -/
theorem run_append_zeros {P : Program} (w : World) (t ti ty e : TypeId) (i : TypeInfo) (z : Value) (k : IntKind) (ht : P.underlying t = some (.slice e)) (hti : P.underlying ti = some (.int k)) (hi : P.info? e = some i) (hz : i.zero = some z) (hsize : i.size = 1) (hz1 : z.cells = #[z])
    (ao : Option Addr) (n cap m : Nat) (olds : List Value) (hlo : olds.length = n) (hnone : ao = none → n = 0) (holds : ∀ b, ao = some b → ∀ j u, olds[j]? = some u → w.cell? (b.add j) = some u)
    (hm : m ≠ 0) (hg : cap < n + m) (h63 : n + m ≤ 1000000) (hbytes : i.bytes ≤ 1000) :
    (Builtin.append_ #[t, ti] ty #[.slice ao n cap, .int .i64 m]).run P w =
      .ok (.slice (some ⟨w.heap.size, 0, none⟩) (n + m) (grownCap w (n + m) cap e))
        (w.drew.alloc (.cells (olds.toArray ++ (Builtin.zeroCells #[z] m ++ Builtin.zeroCells #[z] (grownCap w (n + m) cap e - (n + m)))) e)) := by
  have hn : ¬ (n + m ≤ cap) := by omega
  have hm0 : ¬ ((m : Int) < 0) := by omega
  have h63' : ¬ (9223372036854775807 < ((n : Int) + (m : Int))) := by omega
  have hb : (n + m) * i.bytes ≤ 1000000 * 1000 := Nat.mul_le_mul h63 hbytes
  have h48' : ¬ (281474976710656 < Builtin.nextslicecap (n + m) cap * i.bytes) := by have := growslice_fits (bytes := i.bytes) hg (by omega); omega
  have hmb : (m : Int) * (i.bytes : Int) ≤ 1000000000 := by
    have h1 : m * i.bytes ≤ 1000000 * 1000 := Nat.mul_le_mul (by omega) hbytes
    have h2 : ((m * i.bytes : Nat) : Int) ≤ 1000000000 := by omega
    rwa [Int.natCast_mul] at h2
  have hmb' : ¬ (281474976710656 < (m : Int) * (i.bytes : Int)) := by omega
  have hwr : IntKind.i64.wrap (m : Int) = (m : Int) := by rw [IntKind.wrap_i64]; omega
  have hfo : (Builtin.firstCells 1 n (.slice ao n cap)).run P w.drew = .ok olds.toArray w.drew := by
    cases ao with
    | some b => exact run_firstCells_some (P := P) w.drew 1 n b n cap olds (by omega) (by simpa using holds b rfl)
    | none =>
      obtain rfl := hnone rfl
      obtain rfl : olds = [] := List.eq_nil_of_length_eq_zero hlo
      exact run_firstCells_none w.drew _ _ _ _
  simp [Builtin.append_, run_underlying ht, run_underlying hti, sizeOf, typeInfo, zeroValue, hi, hz, hn, h63', h48', hmb', hwr, hm, hm0, hsize, hz1, Question.forced, hfo, newRow, grownCap, asInt, asIntOf]

theorem zeroCells_one (z : Value) (m j : Nat) (h : j < m) : (Builtin.zeroCells #[z] m)[j]? = some z := by
  simp [Builtin.zeroCells, h, Nat.mod_one]
theorem zeroCells_one_size (z : Value) (m : Nat) : (Builtin.zeroCells #[z] m).size = m := by
  simp [Builtin.zeroCells]

theorem grew_of (w : World) (need n m ncap : Nat) (z : Value) (olds : List Value) (hlo : olds.length = n) (hneed : need = n + m) (hc : need ≤ ncap) :
    Grew w need ncap (fun j => if j < n then olds.getD j z else z) (w.drew.alloc (.cells (olds.toArray ++ (Builtin.zeroCells #[z] m ++ Builtin.zeroCells #[z] (ncap - need))) 26)) := by
  subst hneed
  have hsz : (olds.toArray ++ (Builtin.zeroCells #[z] m ++ Builtin.zeroCells #[z] (ncap - (n + m)))).size = ncap := by
    simp [zeroCells_one_size, hlo]
    omega
  refine ⟨hc, ?_, by simp, ((Below.refl _ _).drew).alloc (Nat.le_refl _) _⟩
  have hr := World.rowIs_alloc w.drew (olds.toArray ++ (Builtin.zeroCells #[z] m ++ Builtin.zeroCells #[z] (ncap - (n + m)))) 26 (fun j => if j < n then olds.getD j z else z) (fun j hj => ?_)
  · rw [hsz] at hr
    exact hr
  · rw [hsz] at hj
    by_cases h1 : j < n
    · have : j < olds.length := by omega
      rw [Array.getElem?_append_left (by simpa using this)]
      simp [h1, this]
    · rw [Array.getElem?_append_right (by simp; omega)]
      by_cases h2 : j - n < m
      · rw [Array.getElem?_append_left (by simp [zeroCells_one_size, hlo]; exact h2)]
        simp only [List.size_toArray, hlo, if_neg h1]
        exact zeroCells_one _ _ _ h2
      · rw [Array.getElem?_append_right (by simp [zeroCells_one_size, hlo]; omega)]
        simp only [List.size_toArray, hlo, if_neg h1, zeroCells_one_size]
        exact zeroCells_one _ _ _ (by omega)

/-- THE LAW FOR THE WALK. -/
theorem wpList_append_zeros (w : World) {ops : Array Oper} {rest : List Oper} {o : Oper} {a : Act} {Q : Exit → Act → World → Prop}
    (hg : o.guard = none) (s x : Operand) (hop : o.op = Op.call { callee := Callee.builtin Builtin.append, args := #[s, x], argTypes := #[32, 3] })
    (ao : Option Addr) (n m : Nat) (M : Int) (f : Nat → Value) (hs : a.eval s = .slice ao n n) (hx : a.eval x = .int .i64 M) (hM : M = (m : Int)) (hnone : ao = none → n = 0) (holds : ∀ b, ao = some b → ∀ j, j < n → w.cell? (b.add j) = some (f j))
    (hm : m ≠ 0) (h63 : n + m ≤ 1000000)
    (hK : ∀ ncap w', Grew w (n + m) ncap (fun j => if j < n then f j else .slice none 0 0) w' → wpList Trym.prog ops Q rest (a.put o.dst (.slice (some ⟨w.heap.size, 0, none⟩) (n + m) ncap)) w') :
    wpList Trym.prog ops Q (o :: rest) a w := by
  refine wpList_plain hg fun K hK' => ?_
  subst hM
  obtain ⟨i, hi, hz0, hz1, hz2⟩ := info_parts info26
  have hrun := run_append_zeros (P := Trym.prog) w 32 3 o.type 26 i (.slice none 0 0) .i64 Trym.underlying32 Trym.underlying3 hi hz0 hz1 rfl ao n n m ((List.range n).map f) (by simp) hnone
    (fun b hb j u hu => by
      obtain ⟨j', hj', rfl⟩ : ∃ j', j < n ∧ f j = u := by
        rw [List.getElem?_map] at hu
        by_cases hj : j < n
        · rw [List.getElem?_range hj] at hu
          exact ⟨j, hj, by simpa using hu⟩
        · rw [List.getElem?_eq_none (by simpa using hj)] at hu
          cases hu
      exact holds b hb j hj') hm (by omega) h63 (by omega)
  have hG := grew_of w (n + m) n m (grownCap w (n + m) n 26) (.slice none 0 0) ((List.range n).map f) (by simp) rfl (grownCap_ge w _ _ _)
  have hG' : Grew w (n + m) (grownCap w (n + m) n 26) (fun j => if j < n then f j else .slice none 0 0) _ := ⟨hG.cap, hG.row.congr fun j _ => by
    by_cases hj : j < n
    · simp [hj]
    · simp [hj], hG.size, hG.below⟩
  unfold Oper.wp
  simp [execOp, hop, resolve, invoke, builtin, hs, hx, hrun, Result.andThen]
  exact hK' _ _ (hK _ _ hG')

/-- What emptied hands back where it must grow: a new row. -/
def GrewRet (w : World) (n : Nat) (f : Nat → Value) (e : Ending) (w' : World) : Prop := ∃ ncap, e = .returned (.slice (some ⟨w.heap.size, 0, none⟩) n ncap) ∧ Grew w n ncap f w'

theorem grewRet_of {w w1 wr : World} {n ncap : Nat} {f g h : Nat → Value} (h1 : Grew w n ncap f w1) (hrow : wr.rowIs w.heap.size 26 ncap g) (ho : Only w.heap.size w1 wr) (hgh : ∀ i, i < ncap → g i = h i) : GrewRet w n h (.returned (.slice (some ⟨w.heap.size, 0, none⟩) n ncap)) wr :=
  ⟨ncap, rfl, h1.cap, hrow.congr hgh, by rw [ho.size, h1.size], h1.below.trans (ho.below (Nat.le_refl _))⟩

set_option maxHeartbeats 1000000 in
theorem emptied16_out (ao : Option Addr) (len cap n : Nat) (A : Nat → Option Addr) (L C : Nat → Nat) (w : World) (hn : n ≤ 65536) (hcn : cap < n) (hnone : ao = none → cap = 0) (hr : ∀ b, ao = some b → ∀ j, j < cap → w.cell? (b.add j) = some (.slice (A j) (L j) (C j))) :
    Calls Trym.prog 16 #[.slice ao len cap, .int .i64 n] w fun e w' => GrewRet w n (fun i => if i < cap then .slice (A i) 0 (C i) else .slice none 0 0) e w' := by
  obtain ⟨m, rfl⟩ : ∃ m, n = cap + m := ⟨n - cap, by omega⟩
  go_enter Trym.func16, Trym.ntmps16
  go_wp2_with (at_builtin; refine wpList_append_zeros _ rfl _ _ rfl ao cap m _ (fun j => .slice (A j) (L j) (C j)) rfl rfl (by omega) hnone hr (by omega) (by omega) ?_; intro ncap w1 hG; have hcp : (cap : Int) + (m : Int) ≤ (ncap : Int) := by { have := hG.cap; omega })
  obtain ⟨A', hA'⟩ : ∃ A' : Nat → Option Addr, A' = fun i => if i < cap then A i else none := ⟨_, rfl⟩
  obtain ⟨L', hL'⟩ : ∃ L' : Nat → Nat, L' = fun i => if i < cap then L i else 0 := ⟨_, rfl⟩
  obtain ⟨C', hC'⟩ : ∃ C' : Nat → Nat, C' = fun i => if i < cap then C i else 0 := ⟨_, rfl⟩
  have hr1 : w1.rowIs w.heap.size 26 ncap (fun j => .slice (A' j) (L' j) (C' j)) := hG.row.congr fun j _ => by
    rw [hA', hL', hC']
    by_cases h : j < cap <;> simp [h]
  have HE : Hid (∀ i, (if i < cap + m then Value.slice (A' i) 0 (C' i) else .slice (A' i) (L' i) (C' i)) = (if i < cap then .slice (A i) 0 (C i) else .slice none 0 0)) := by
    intro i
    rw [hA', hL', hC']
    by_cases h : i < cap
    · simp [h, show i < cap + m by omega]
    · simp [h]
  clear hA' hL' hC' hr hnone
  go_loopw [24] (fun i wr => ∃ k : Nat, k ≤ cap + m ∧ i = .int .i64 k ∧ wr.rowIs w.heap.size 26 ncap (fun j => if j < k then .slice (A' j) 0 (C' j) else .slice (A' j) (L' j) (C' j)) ∧ Only w.heap.size w1 wr) (fun i _ => cap + m - (intOf i).toNat)
  case atStart => exact ⟨0, Nat.zero_le _, rfl, hr1.congr fun j _ => by simp, Only.refl _ _⟩
  case round =>
    obtain ⟨k, hk, rfl, hrow, ho⟩ := hrel
    by_cases hlt : k < cap + m
    · have hcx : wr.cell? ⟨w.heap.size, k, none⟩ = some (.slice (A' k) (L' k) (C' k)) := by have := hrow.cell (i := k) (by omega); simpa using this
      have hfy := hrow.frozen k
      have hkc : (k : Int) < (ncap : Int) := by omega
      have HS := empty_step (f := fun j => .slice (A' j) (L' j) (C' j)) (g := fun j => .slice (A' j) 0 (C' j)) hrow ho
      clear hrow hr1 hG
      go_wp2
      go_roundw
      case rel => exact ⟨k + 1, by omega, by go_num, HS.1, HS.2⟩
      case measure => simp [intOf]; omega
    · obtain rfl : k = cap + m := by omega
      have HG := grewRet_of hG hrow ho (fun i _ => HE.out i)
      clear hG hrow ho hr1
      go_wp2
      go_ret
      exact HG

/-! The same contracts, the new block's number by a name of its own. -/
theorem copied (B : Nat) (x : Addr) (len cap : Nat) (A : Nat → Option Addr) (L C : Nat → Nat) (w : World) (hB : w.heap.size = B) (hl : len ≤ 131072) (hc : Outer w x len A L C) :
    Calls Trym.prog 13 #[.slice (some x) len cap] w fun e w' => e = .returned (.slice (some ⟨B, 0, none⟩) len len) ∧ w'.rowIs B 26 len (fun i => .slice (A i) (L i) (C i)) ∧ w'.heap.size = B + 1 ∧ Below B w w' := by
  subst hB
  exact (copy13 x len cap A L C w hl hc).mono fun e w' ⟨h1, h2⟩ => ⟨h1, h2.row, h2.size, h2.below⟩

theorem emptied_in (B len cap n : Nat) (A : Nat → Option Addr) (L C : Nat → Nat) (w : World) (hcap : cap ≤ 131072) (hn : n ≤ cap) (hr : w.rowIs B 26 cap (fun i => .slice (A i) (L i) (C i))) :
    Calls Trym.prog 14 #[.slice (some ⟨B, 0, none⟩) len cap, .int .i64 n] w fun e w' => e = .returned (.slice (some ⟨B, 0, none⟩) n cap) ∧
      w'.rowIs B 26 cap (fun i => if i < n then .slice (A i) 0 (C i) else .slice (A i) (L i) (C i)) ∧ Only B w w' := by
  have h := emptied16_in B len cap n A L C w hcap hn hr
  go_enter Trym.func14, Trym.ntmps14
  go_wp2_with (go_at_call 16; refine h.mono ?_; rintro e w' ⟨rfl, h1, h2⟩)
  go_ret
  exact ⟨rfl, h1, h2⟩

theorem emptied_out0 (ao : Option Addr) (len cap n : Nat) (A : Nat → Option Addr) (L C : Nat → Nat) (w : World) (hn : n ≤ 65536) (hcn : cap < n) (hnone : ao = none → cap = 0) (hr : ∀ b, ao = some b → ∀ j, j < cap → w.cell? (b.add j) = some (.slice (A j) (L j) (C j))) :
    Calls Trym.prog 14 #[.slice ao len cap, .int .i64 n] w fun e w' => GrewRet w n (fun i => if i < cap then .slice (A i) 0 (C i) else .slice none 0 0) e w' := by
  have h := emptied16_out ao len cap n A L C w hn hcn hnone hr
  clear hr
  go_enter Trym.func14, Trym.ntmps14
  go_wp2_with (go_at_call 16; refine h.mono ?_; rintro e w' ⟨ncap, rfl, h1⟩)
  go_ret
  exact ⟨ncap, rfl, h1⟩

/-- What emptied hands back where it must grow, the new block's number by a name of its own. -/
def OutRet (B : Nat) (w : World) (n : Nat) (f : Nat → Value) (e : Ending) (w' : World) : Prop := ∃ ncap, e = .returned (.slice (some ⟨B, 0, none⟩) n ncap) ∧ n ≤ ncap ∧ w'.rowIs B 26 ncap f ∧ w'.heap.size = B + 1 ∧ Below B w w'

theorem emptied_out (B : Nat) (ao : Option Addr) (len cap n : Nat) (A : Nat → Option Addr) (L C : Nat → Nat) (w : World) (hB : w.heap.size = B) (hn : n ≤ 65536) (hcn : cap < n) (hnone : ao = none → cap = 0) (hr : ∀ b, ao = some b → ∀ j, j < cap → w.cell? (b.add j) = some (.slice (A j) (L j) (C j))) :
    Calls Trym.prog 14 #[.slice ao len cap, .int .i64 n] w fun e w' => OutRet B w n (fun i => if i < cap then .slice (A i) 0 (C i) else .slice none 0 0) e w' := by
  subst hB
  exact (emptied_out0 ao len cap n A L C w hn hcn hnone hr).mono fun e w' ⟨ncap, h1, h2⟩ => ⟨ncap, h1, h2.cap, h2.row, h2.size, h2.below⟩

theorem emptied_nil (w : World) : Calls Trym.prog 14 #[.slice none 0 0, .int .i64 0] w fun e w' => e = .returned (.slice none 0 0) ∧ w = w' := by
  go_enter Trym.func14, Trym.ntmps14
  go_wp2
  refine wp_loop_rounds 1 ?_
  rw [rounds_succ]
  go_wp2
  go_ret
  exact ⟨rfl, rfl⟩
end Go.Proofs.Qxb6603347aMods.Emptied
