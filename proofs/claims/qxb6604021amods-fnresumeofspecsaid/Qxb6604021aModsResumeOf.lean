import Derived.Test.Qxb6604021aModsRepStart
import Derived.Test.Qxb6604021aModsResumeCalls
namespace Go.Proofs.Qxb6604021aMods.Reps
open Go.RowKit
open Resume (Pos bef befB IsTop TopOf cw whole)

/-- The state of resumeOf's loop over the map. -/
structure Resuming (w : World) (M n : Nat) (V : Nat → Value) (own : Pos) (seen : Array Nat) (f : Pos) (wr : World) : Prop where
  map : MapIs wr M V n
  iter : ∃ c0, n ≤ c0 ∧ wr.heap[w.heap.size + 2]? = some (.mapIter (some M) n seen c0)
  own : wr.rowIs w.heap.size 64 2 (posF own)
  floor : wr.rowIs (w.heap.size + 1) 64 2 (posF f)
  below : Below w.heap.size w wr

theorem Resuming.ranging {w : World} {M n : Nat} {V : Nat → Value} {own : Pos} {seen : Array Nat} {f : Pos} {wr : World} (h : Resuming w M n V own seen f wr) : Ranging wr M (w.heap.size + 2) n V seen wr := ⟨h.map, h.iter, Below.refl _ _⟩

theorem Resuming.next {w : World} {M n : Nat} {V : Nat → Value} {own : Pos} {seen seen' : Array Nat} {f : Pos} {wr w' : World} (h : Resuming w M n V own seen f wr) (hr : Ranging wr M (w.heap.size + 2) n V seen' w') : Resuming w M n V own seen' f w' :=
  ⟨hr.map, hr.iter, h.own.of_block (hr.below.block _ (by omega)), h.floor.of_block (hr.below.block _ (by omega)), h.below.trans (hr.below.mono (by omega))⟩

theorem Resuming.lt {w : World} {M n : Nat} {V : Nat → Value} {own : Pos} {seen : Array Nat} {f : Pos} {wr : World} (h : Resuming w M n V own seen f wr) : w.heap.size + 2 < wr.heap.size ∧ M < wr.heap.size := by
  obtain ⟨c0, _, hi⟩ := h.iter
  have hm := h.map
  unfold MapIs at hm
  constructor
  · rcases Nat.lt_or_ge (w.heap.size + 2) wr.heap.size with h1 | h1
    · exact h1
    · simp [Array.getElem?_eq_none h1] at hi
  · rcases Nat.lt_or_ge M wr.heap.size with h1 | h1
    · exact h1
    · simp [Array.getElem?_eq_none h1] at hm

theorem Resuming.kept {w : World} {M n : Nat} {V : Nat → Value} {own : Pos} {seen : Array Nat} {f : Pos} {wr w' : World} (h : Resuming w M n V own seen f wr) (hb : Below wr.heap.size wr w') : Resuming w M n V own seen f w' := by
  obtain ⟨c0, hc, hi⟩ := h.iter
  have hl := h.lt
  have hm := h.map
  unfold MapIs at hm
  exact ⟨by unfold MapIs; rw [hb.block _ hl.2]; exact hm, ⟨c0, hc, by rw [hb.block _ hl.1]; exact hi⟩, h.own.of_block (hb.block _ (by omega)), h.floor.of_block (hb.block _ (by omega)), h.below.trans (hb.mono (by omega))⟩

theorem Resuming.setFloor {w : World} {M n : Nat} {V : Nat → Value} {own : Pos} {seen : Array Nat} {f : Pos} {wr : World} (h : Resuming w M n V own seen f wr) (hM : M < w.heap.size) (p : Pos) :
    Resuming w M n V own seen p ((wr.setCell ⟨w.heap.size + 1, 0, none⟩ (.int .u64 p.1)).setCell ⟨w.heap.size + 1, 1, none⟩ (.int .u64 p.2)) := by
  obtain ⟨c0, hc, hi⟩ := h.iter
  have hm := h.map
  unfold MapIs at hm
  have ho : ∀ b, b ≠ w.heap.size + 1 → ((wr.setCell ⟨w.heap.size + 1, 0, none⟩ (.int .u64 p.1)).setCell ⟨w.heap.size + 1, 1, none⟩ (.int .u64 p.2)).heap[b]? = wr.heap[b]? := fun b hb => by
    rw [Below.heap_setCell _ ⟨w.heap.size + 1, 1, none⟩ _ _ hb, Below.heap_setCell _ ⟨w.heap.size + 1, 0, none⟩ _ _ hb]
  refine ⟨by unfold MapIs; rw [ho _ (by omega)]; exact hm, ⟨c0, hc, by rw [ho _ (by omega)]; exact hi⟩, h.own.of_block (ho _ (by omega)), ?_, (h.below.setCell (Nat.le_succ _) _).setCell (Nat.le_succ _) _⟩
  refine ((h.floor.set 0 (.int .u64 p.1)).set 1 (.int .u64 p.2)).congr fun j hj => ?_
  match j, hj with
  | 0, _ => rfl
  | 1, _ => rfl

/-- It has not come yet. -/
theorem not_seen {V : Nat → Value} {n i : Nat} {seen : Array Nat} (h : toCome V n (seen.push i) < toCome V n seen) : seen.contains i = false := by
  cases hc : seen.contains i with
  | false => rfl
  | true =>
    exfalso
    have e : leftOf (mapEs V n) (seen.push i) = leftOf (mapEs V n) seen := by
      unfold leftOf
      congr 1
      funext x
      rw [contains_push]
      by_cases hx : x.born = i
      · rw [hx, hc]; simp
      · have : (x.born == i) = false := by simpa using hx
        rw [this, Bool.or_false]
    unfold toCome at h
    rw [e] at h
    omega

/-- The positions of the reports. -/
def poss (P I : Nat → Int) : Nat → Pos := fun i => (P i, I i)
def isWs (S : Nat → ByteArray) : Nat → Bool := fun i => isW (S i)

/-- How many of those that have come are whole. -/
def came (S : Nat → ByteArray) (n : Nat) (seen : Array Nat) : Nat := cw (isWs S) (fun k => seen.contains k) n
theorem came_none (S : Nat → ByteArray) (n : Nat) : came S n #[] = 0 := Resume.cw_none _ _
theorem came_le (S : Nat → ByteArray) (n : Nat) (seen : Array Nat) : came S n seen ≤ n := Resume.cw_le _ _ _
theorem came_push (S : Nat → ByteArray) (n i : Nat) (seen : Array Nat) (hi : i < n) (hs : seen.contains i = false) : came S n (seen.push i) = came S n seen + if isW (S i) = true then 1 else 0 := Resume.cw_push _ _ _ _ hi hs
theorem came_all (S : Nat → ByteArray) (n : Nat) (seen : Array Nat) (h : ∀ i, i < n → i ∈ seen) : came S n seen = whole (isWs S) n := Resume.cw_all h

/-- What resumeOf hands back. -/
def Resumed (w : World) (members : Int) (own : Pos) (rcv : Bool) (n : Nat) (W : Nat → Bool) (p : Nat → Pos) (e : Ending) (w' : World) : Prop :=
  ∃ f F, IsTop p n f ∧ Below w.heap.size w w' ∧
    ((members < 2 * (whole W n : Int) ∧ e = .returned (.tuple #[.string recovS, .pointer none])) ∨
     (¬ members < 2 * (whole W n : Int) ∧ rcv = false ∧ befB own f = false ∧ e = .returned (.tuple #[.string wholeS, .pointer none])) ∨
     (¬ members < 2 * (whole W n : Int) ∧ (rcv = true ∨ befB own f = true) ∧ e = .returned (.tuple #[.string recovS, .pointer (some ⟨F, 0, none⟩)]) ∧ w'.rowIs F 64 2 (posF f)))

theorem row2 {w : World} {t : TypeId} (p : Pos) : (w.alloc (.cells #[.int .u64 p.1, .int .u64 p.2] t)).rowIs w.heap.size t 2 (posF p) :=
  World.rowIs_alloc w #[.int .u64 p.1, .int .u64 p.2] t (posF p) fun i hi => by
    match i, hi with
    | 0, _ => rfl
    | 1, _ => rfl

theorem resuming_start {w : World} {M n : Nat} {V : Nat → Value} (own : Pos) (hM : MapIs w M V n) (hMl : M < w.heap.size) :
    ∃ wi, (Instr.range 30 (.map (some M))).run Trym.prog ((w.alloc (.cells #[.int .u64 own.1, .int .u64 own.2] 64)).alloc (.cells #[.int .u64 0, .int .u64 0] 64)) = .ok (.pointer (some ⟨w.heap.size + 2, 0, none⟩)) wi ∧ Resuming w M n V own #[] (0, 0) wi := by
  have e1 : (w.alloc (.cells #[.int .u64 own.1, .int .u64 own.2] 64)).heap.size = w.heap.size + 1 := by simp
  have e2 : ((w.alloc (.cells #[.int .u64 own.1, .int .u64 own.2] 64)).alloc (.cells #[.int .u64 0, .int .u64 0] 64)).heap.size = w.heap.size + 2 := by simp
  have hm1 : MapIs ((w.alloc (.cells #[.int .u64 own.1, .int .u64 own.2] 64)).alloc (.cells #[.int .u64 0, .int .u64 0] 64)) M V n := by
    unfold MapIs
    rw [Below.heap_alloc _ _ _ (by omega), Below.heap_alloc _ _ _ hMl]
    exact hM
  obtain ⟨wi, hrun, hR⟩ := range_run hm1
  rw [e2] at hrun hR
  have h1 := (row2 (w := w) (t := 64) own).alloc (.cells #[.int .u64 0, .int .u64 0] 64)
  have h2 := row2 (w := w.alloc (.cells #[.int .u64 own.1, .int .u64 own.2] 64)) (t := 64) (0, 0)
  rw [e1] at h2
  exact ⟨wi, hrun, hR.map, hR.iter, World.rowIs.of_block h1 (hR.below.block _ (by omega)), World.rowIs.of_block h2 (hR.below.block _ (by omega)), (((Below.refl _ _).alloc (Nat.le_refl _) _).alloc (by simp) _).trans (hR.below.mono (by omega))⟩

set_option maxRecDepth 20000 in
set_option maxHeartbeats 2000000 in
theorem resume29 (M n : Nat) (members : Int) (own : Pos) (rcv : Bool) (T : Nat → Int) (S : Nat → ByteArray) (P I : Nat → Int) (w : World) (hn : n ≤ 65536) (hm : 1 ≤ members) (hm2 : members ≤ 9223372036854775807) (hM : MapIs w M (repV T S P I) n) :
    Calls Trym.prog 29 #[.int .i64 members, .agg #[.int .u64 own.1, .int .u64 own.2], .bool rcv, .map (some M)] w fun e w' => Resumed w members own rcv n (isWs S) (poss P I) e w' := by
  have hMl : M < w.heap.size := by
    have hm := hM
    unfold MapIs at hm
    rcases Nat.lt_or_ge M w.heap.size with h1 | h1
    · exact h1
    · simp [Array.getElem?_eq_none h1] at hm
  obtain ⟨wi, hrange, hR⟩ := resuming_start own hM hMl
  go_enter Trym.func29, Trym.ntmps29
  go_wp2_with fail
  clear hrange hM
  go_loopg [10] (toCome (repV T S P I) n #[]) (fun g c wr => ∃ seen f, c = .int .i64 (came S n seen) ∧ g = toCome (repV T S P I) n seen ∧ Resuming w M n (repV T S P I) own seen f wr ∧ TopOf (poss P I) n seen f)
  case atStart => exact ⟨#[], (0, 0), by rw [came_none]; rfl, rfl, hR, Resume.topOf_start _ _⟩
  case round =>
    clear hR
    obtain ⟨seen, f, rfl, rfl, hR, hX⟩ := hrel
    go_wp2_with (at_next; refine wpList_next_reps _ rfl _ rfl wr M (w.heap.size + 2) n T S P I seen rfl hR.ranging (by omega) ?_ ?_)
    · intro hs
      have hT := hX.all hs
      have hcw : came S n seen = whole (isWs S) n := came_all S n seen hs
      have hwl := Resume.whole_le (isWs S) n
      rw [hcw]
      have HT : Hid (IsTop (poss P I) n f) := hT
      have o0 : wr.cell? ⟨w.heap.size, 0, none⟩ = some (.int .u64 own.1) := hR.own.cell (i := 0) (by omega)
      have o1 : wr.cell? ⟨w.heap.size, 1, none⟩ = some (.int .u64 own.2) := hR.own.cell (i := 1) (by omega)
      have f0 : wr.cell? ⟨w.heap.size + 1, 0, none⟩ = some (.int .u64 f.1) := hR.floor.cell (i := 0) (by omega)
      have f1 : wr.cell? ⟨w.heap.size + 1, 1, none⟩ = some (.int .u64 f.2) := hR.floor.cell (i := 1) (by omega)
      have hfl := hR.floor
      have hbl := hR.below
      have hlt := hR.lt
      have hbf := before32 own f wr
      clear hs hT hcw hX hR
      by_cases hc : members < 2 * (whole (isWs S) n : Int)
      · have hq : members / 2 < (whole (isWs S) n : Int) := by omega
        go_wp2_with fail
        go_ret2
        exact ⟨f, 0, HT.out, hbl, .inl ⟨by omega, rfl⟩⟩
      · have hq : ¬ members / 2 < (whole (isWs S) n : Int) := by omega
        cases rcv with
        | true =>
          go_wp2_with fail
          go_ret2
          exact ⟨f, _, HT.out, hbl, .inr (.inr ⟨by omega, .inl rfl, rfl, hfl⟩)⟩
        | false =>
          cases hB : befB own f with
          | true =>
            rw [hB] at hbf
            go_wp2_with fail
            refine hbf.mono ?_
            rintro e w2 ⟨rfl, hb2⟩
            have hbl2 := hbl.trans (hb2.mono (by omega))
            have hfl2 := hfl.of_block (hb2.block _ (by omega))
            clear hbf hb2 hfl hbl
            go_wp2_with fail
            go_ret2
            exact ⟨f, _, HT.out, hbl2, .inr (.inr ⟨by omega, .inr hB, rfl, hfl2⟩)⟩
          | false =>
            rw [hB] at hbf
            go_wp2_with fail
            refine hbf.mono ?_
            rintro e w2 ⟨rfl, hb2⟩
            have hbl2 := hbl.trans (hb2.mono (by omega))
            clear hbf hb2 hfl hbl
            go_wp2_with fail
            go_ret2
            exact ⟨f, 0, HT.out, hbl2, .inr (.inl ⟨by omega, rfl, hB, rfl⟩)⟩
    · intro i w' hi hlt hR' hen
      have hR2 := hR.next hR'
      have HT : Hid (toCome (repV T S P I) n (seen.push i) < toCome (repV T S P I) n seen) := hlt
      have hcl := came_le S n seen
      have f0 : w'.cell? ⟨w.heap.size + 1, 0, none⟩ = some (.int .u64 f.1) := hR2.floor.cell (i := 0) (by omega)
      have f1 : w'.cell? ⟨w.heap.size + 1, 1, none⟩ = some (.int .u64 f.2) := hR2.floor.cell (i := 1) (by omega)
      have hbf : ∀ W, Calls Trym.prog 32 #[.agg #[.int .u64 f.1, .int .u64 f.2], .agg #[.int .u64 (P i), .int .u64 (I i)]] W (fun e w' => e = .returned (.bool (befB f (P i, I i))) ∧ Below W.heap.size W w') := fun W => before32 f (P i, I i) W
      have hll : w.heap.size + 1 < w'.heap.size := by have := hR2.lt; omega
      have f0' : ∀ o, (w'.alloc o).cell? ⟨w.heap.size + 1, 0, none⟩ = some (.int .u64 f.1) := fun o => (hR2.floor.alloc o).cell (i := 0) (by omega)
      have f1' : ∀ o, (w'.alloc o).cell? ⟨w.heap.size + 1, 1, none⟩ = some (.int .u64 f.2) := fun o => (hR2.floor.alloc o).cell (i := 1) (by omega)
      have HR : Hid (Resuming w M n (repV T S P I) own (seen.push i) f w') := hR2
      clear hlt hR hR' hR2
      cases hW : ((S i).toList == [119, 104, 111, 108, 101]) with
      | true =>
        cases hB : befB f (P i, I i) with
        | true =>
          rw [hB] at hbf
          have HC : Hid ((came S n (seen.push i) : Int) = (came S n seen : Int) + 1) := by
            show _ = _
            rw [came_push _ _ _ _ hi (not_seen HT.out)]
            simp [isW, hW]
          have HX : Hid (TopOf (poss P I) n (seen.push i) (P i, I i)) := hX.up hi ((Resume.befB_iff _ _).1 hB)
          clear hX hB
          go_wp2_with fail
          refine (hbf _).mono ?_
          rintro e w2 ⟨rfl, hb2⟩
          have hb3 : Below w'.heap.size w' w2 := ((Below.refl _ _).alloc (Nat.le_refl _) _).trans (hb2.mono (by simp))
          have hR3 := HR.out.kept hb3
          have r2 : w2.cell? ⟨w'.heap.size, 2, none⟩ = some (.int .u64 (P i)) := (hb2.cell (p := ⟨w'.heap.size, 2, none⟩) (by simp)).trans (by simp)
          have r3 : w2.cell? ⟨w'.heap.size, 3, none⟩ = some (.int .u64 (I i)) := (hb2.cell (p := ⟨w'.heap.size, 3, none⟩) (by simp)).trans (by simp)
          have g0 : w2.cell? ⟨w.heap.size + 1, 0, none⟩ = some (.int .u64 f.1) := hR3.floor.cell (i := 0) (by omega)
          have g1 : w2.cell? ⟨w.heap.size + 1, 1, none⟩ = some (.int .u64 f.2) := hR3.floor.cell (i := 1) (by omega)
          have g2 := hR3.floor.frozen
          have HS := hR3.setFloor hMl (P i, I i)
          clear hb2 hb3 hR3
          go_wp2_with fail
          go_roundg (toCome (repV T S P I) n (seen.push i))
          case measure => exact HT.out
          case rel => exact ⟨seen.push i, _, by rw [HC.out], rfl, HS, HX.out⟩
        | false =>
          rw [hB] at hbf
          have HC : Hid ((came S n (seen.push i) : Int) = (came S n seen : Int) + 1) := by
            show _ = _
            rw [came_push _ _ _ _ hi (not_seen HT.out)]
            simp [isW, hW]
          have HX : Hid (TopOf (poss P I) n (seen.push i) f) := hX.stay ((Resume.befB_false _ _).1 hB)
          clear hX hB
          go_wp2_with fail
          refine (hbf _).mono ?_
          rintro e w2 ⟨rfl, hb2⟩
          have hb3 : Below w'.heap.size w' w2 := ((Below.refl _ _).alloc (Nat.le_refl _) _).trans (hb2.mono (by simp))
          have hR3 := HR.out.kept hb3
          clear hb2 hb3
          go_wp2_with fail
          go_roundg (toCome (repV T S P I) n (seen.push i))
          case measure => exact HT.out
          case rel => exact ⟨seen.push i, _, by rw [HC.out], rfl, hR3, HX.out⟩
      | false =>
        cases hB : befB f (P i, I i) with
        | true =>
          rw [hB] at hbf
          have HC : Hid ((came S n (seen.push i) : Int) = (came S n seen : Int)) := by
            show _ = _
            rw [came_push _ _ _ _ hi (not_seen HT.out)]
            simp [isW, hW]
          have HX : Hid (TopOf (poss P I) n (seen.push i) (P i, I i)) := hX.up hi ((Resume.befB_iff _ _).1 hB)
          clear hX hB
          go_wp2_with fail
          refine (hbf _).mono ?_
          rintro e w2 ⟨rfl, hb2⟩
          have hb3 : Below w'.heap.size w' w2 := ((Below.refl _ _).alloc (Nat.le_refl _) _).trans (hb2.mono (by simp))
          have hR3 := HR.out.kept hb3
          have r2 : w2.cell? ⟨w'.heap.size, 2, none⟩ = some (.int .u64 (P i)) := (hb2.cell (p := ⟨w'.heap.size, 2, none⟩) (by simp)).trans (by simp)
          have r3 : w2.cell? ⟨w'.heap.size, 3, none⟩ = some (.int .u64 (I i)) := (hb2.cell (p := ⟨w'.heap.size, 3, none⟩) (by simp)).trans (by simp)
          have g0 : w2.cell? ⟨w.heap.size + 1, 0, none⟩ = some (.int .u64 f.1) := hR3.floor.cell (i := 0) (by omega)
          have g1 : w2.cell? ⟨w.heap.size + 1, 1, none⟩ = some (.int .u64 f.2) := hR3.floor.cell (i := 1) (by omega)
          have g2 := hR3.floor.frozen
          have HS := hR3.setFloor hMl (P i, I i)
          clear hb2 hb3 hR3
          go_wp2_with fail
          go_roundg (toCome (repV T S P I) n (seen.push i))
          case measure => exact HT.out
          case rel => exact ⟨seen.push i, _, by rw [HC.out], rfl, HS, HX.out⟩
        | false =>
          rw [hB] at hbf
          have HC : Hid ((came S n (seen.push i) : Int) = (came S n seen : Int)) := by
            show _ = _
            rw [came_push _ _ _ _ hi (not_seen HT.out)]
            simp [isW, hW]
          have HX : Hid (TopOf (poss P I) n (seen.push i) f) := hX.stay ((Resume.befB_false _ _).1 hB)
          clear hX hB
          go_wp2_with fail
          refine (hbf _).mono ?_
          rintro e w2 ⟨rfl, hb2⟩
          have hb3 : Below w'.heap.size w' w2 := ((Below.refl _ _).alloc (Nat.le_refl _) _).trans (hb2.mono (by simp))
          have hR3 := HR.out.kept hb3
          clear hb2 hb3
          go_wp2_with fail
          go_roundg (toCome (repV T S P I) n (seen.push i))
          case measure => exact HT.out
          case rel => exact ⟨seen.push i, _, by rw [HC.out], rfl, hR3, HX.out⟩
end Go.Proofs.Qxb6604021aMods.Reps
