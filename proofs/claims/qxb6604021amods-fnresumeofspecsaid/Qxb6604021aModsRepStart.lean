import Derived.Test.Qxb6604021aModsRepRange
namespace Go.Proofs.Qxb6604021aMods.Reps
open Go.RowKit

/-- h is the greatest of the first n terms, or 0. -/
structure IsMax (T : Nat → Int) (n : Nat) (h : Int) : Prop where
  le : ∀ i, i < n → T i ≤ h
  hit : h = 0 ∨ ∃ i, i < n ∧ T i = h

/-- h is the greatest of those that have come, or 0. -/
structure MaxOf (T : Nat → Int) (n : Nat) (seen : Array Nat) (h : Int) : Prop where
  le : ∀ i, i ∈ seen → T i ≤ h
  hit : h = 0 ∨ ∃ i, i < n ∧ T i = h

theorem MaxOf.up {T : Nat → Int} {n i : Nat} {seen : Array Nat} {h : Int} (m : MaxOf T n seen h) (hi : i < n) (hlt : h < T i) : MaxOf T n (seen.push i) (T i) := by
  refine ⟨fun j hj => ?_, .inr ⟨i, hi, rfl⟩⟩
  rcases Array.mem_push.1 hj with hj | rfl
  · have := m.le j hj; omega
  · exact Int.le_refl _
theorem MaxOf.stay {T : Nat → Int} {n i : Nat} {seen : Array Nat} {h : Int} (m : MaxOf T n seen h) (hlt : ¬ h < T i) : MaxOf T n (seen.push i) h := by
  refine ⟨fun j hj => ?_, m.hit⟩
  rcases Array.mem_push.1 hj with hj | rfl
  · exact m.le j hj
  · omega
theorem MaxOf.all {T : Nat → Int} {n : Nat} {seen : Array Nat} {h : Int} (m : MaxOf T n seen h) (hs : ∀ i, i < n → i ∈ seen) : IsMax T n h := ⟨fun i hi => m.le i (hs i hi), m.hit⟩

/-- The bound that startOf reckons from the terms. -/
def BoundIs (T : Nat → Int) (n : Nat) (b : Int) : Prop := ∃ h, IsMax T n h ∧ ((h ≤ 1 ∧ b = 0) ∨ (1 < h ∧ b = h))
theorem BoundIs.zero {T : Nat → Int} {n : Nat} (h : BoundIs T n 0) : ∀ i, i < n → T i ≤ 1 := by
  obtain ⟨z, hX, ⟨h1, _⟩ | ⟨h1, h2⟩⟩ := h
  · intro i hi; have := hX.le i hi; omega
  · omega
theorem BoundIs.more {T : Nat → Int} {n : Nat} {b : Int} (h : BoundIs T n b) (hb : b ≠ 0) : 1 < b ∧ (∀ i, i < n → T i ≤ b) ∧ ∃ i, i < n ∧ T i = b := by
  obtain ⟨z, hX, ⟨_, h2⟩ | ⟨h1, h2⟩⟩ := h
  · exact absurd h2 hb
  · subst h2
    refine ⟨h1, hX.le, ?_⟩
    rcases hX.hit with h | h
    · omega
    · exact h

/-- What startOf hands back once all have answered. -/
def Started (T : Nat → Int) (n : Nat) (e : Ending) : Prop := ∃ b, BoundIs T n b ∧ e = .returned (.tuple #[.int .u64 b, .bool true])

theorem len_map {w : World} {M n : Nat} {V : Nat → Value} (h : MapIs w M V n) (t : TypeId) : (Builtin.len_ #[30] t #[.map (some M)]).run Trym.prog w = .ok (.int .i64 n) w := by
  unfold MapIs at h
  simp [Builtin.len_, run_underlying Trym.underlying30, MapKept.run_getObj_map h, goInt, mapEs]

set_option maxRecDepth 20000 in
set_option maxHeartbeats 2000000 in
theorem start26 (M n : Nat) (members : Int) (T : Nat → Int) (S : Nat → ByteArray) (P I : Nat → Int) (w : World) (hm : 1 ≤ members) (hm2 : members ≤ 9223372036854775807) (hM : MapIs w M (repV T S P I) n) (hall : members - 1 ≤ n) :
    Calls Trym.prog 26 #[.int .i64 members, .map (some M)] w fun e w' => Started T n e ∧ Below w.heap.size w w' := by
  have hlen := len_map hM
  obtain ⟨wi, hrange, hR⟩ := range_run hM
  have hMr : M ≠ w.heap.size := by
    have hm := hM
    unfold MapIs at hm
    rintro rfl
    simp at hm
  go_enter Trym.func26, Trym.ntmps26
  go_wp2_with fail
  clear hlen hrange hM
  go_loopg [6] (toCome (repV T S P I) n #[]) (fun g h wr => ∃ z seen, h = .int .u64 z ∧ g = toCome (repV T S P I) n seen ∧ Ranging w M w.heap.size n (repV T S P I) seen wr ∧ MaxOf T n seen z)
  case atStart => exact ⟨0, #[], rfl, rfl, hR, fun i hi => by simp at hi, .inl rfl⟩
  case round =>
    clear hR
    obtain ⟨z, seen, rfl, rfl, hR, hX⟩ := hrel
    go_wp2_with (at_next; refine wpList_next_reps _ rfl _ rfl w M w.heap.size n T S P I seen rfl hR hMr ?_ ?_)
    · intro hs
      have hX' := hX.all hs
      have hb := hR.below
      clear hs hX hR
      by_cases hz : z ≤ 1
      · go_wp2_with fail
        go_ret2
        exact ⟨⟨0, ⟨z, hX', .inl ⟨hz, rfl⟩⟩, rfl⟩, hb⟩
      · go_wp2_with fail
        go_ret2
        exact ⟨⟨z, ⟨z, hX', .inr ⟨by omega, rfl⟩⟩, rfl⟩, hb⟩
    · intro i w' hi hlt hR' hen
      have HT : Hid (toCome (repV T S P I) n (seen.push i) < toCome (repV T S P I) n seen) := hlt
      clear hlt hR
      by_cases hz : z < T i
      · have hX' := hX.up hi hz
        clear hX
        go_wp2_with fail
        go_roundg (toCome (repV T S P I) n (seen.push i))
        case measure => exact HT.out
        case rel => exact ⟨_, seen.push i, rfl, rfl, hR'.alloc _, hX'⟩
      · have hX' := hX.stay hz
        clear hX
        go_wp2_with fail
        go_roundg (toCome (repV T S P I) n (seen.push i))
        case measure => exact HT.out
        case rel => exact ⟨_, seen.push i, rfl, rfl, hR'.alloc _, hX'⟩

set_option maxHeartbeats 1000000 in
theorem start26_few (M n : Nat) (members : Int) (T : Nat → Int) (S : Nat → ByteArray) (P I : Nat → Int) (w : World) (hm : 1 ≤ members) (hm2 : members ≤ 9223372036854775807) (hM : MapIs w M (repV T S P I) n) (hfew : (n : Int) < members - 1) :
    Calls Trym.prog 26 #[.int .i64 members, .map (some M)] w fun e w' => e = .returned (.tuple #[.int .u64 0, .bool false]) ∧ w = w' := by
  have hlen := len_map hM
  go_enter Trym.func26, Trym.ntmps26
  go_wp2_with fail
  go_ret2
  exact ⟨rfl, rfl⟩

theorem start10 (M n : Nat) (members : Int) (T : Nat → Int) (S : Nat → ByteArray) (P I : Nat → Int) (w : World) (hm : 1 ≤ members) (hm2 : members ≤ 9223372036854775807) (hM : MapIs w M (repV T S P I) n) (hall : members - 1 ≤ n) :
    Calls Trym.prog 10 #[.int .i64 members, .map (some M)] w fun e w' => Started T n e ∧ Below w.heap.size w w' := by
  have h := start26 M n members T S P I w hm hm2 hM hall
  go_enter Trym.func10, Trym.ntmps10
  go_wp2_with fail
  refine h.mono ?_
  rintro e w1 ⟨⟨z, hX, rfl⟩, hb⟩
  go_wp2_with fail
  go_ret2
  exact ⟨⟨z, hX, rfl⟩, hb⟩

theorem start10_few (M n : Nat) (members : Int) (T : Nat → Int) (S : Nat → ByteArray) (P I : Nat → Int) (w : World) (hm : 1 ≤ members) (hm2 : members ≤ 9223372036854775807) (hM : MapIs w M (repV T S P I) n) (hfew : (n : Int) < members - 1) :
    Calls Trym.prog 10 #[.int .i64 members, .map (some M)] w fun e w' => e = .returned (.tuple #[.int .u64 0, .bool false]) ∧ w = w' := by
  have h := start26_few M n members T S P I w hm hm2 hM hfew
  go_enter Trym.func10, Trym.ntmps10
  go_wp2_with fail
  refine h.mono ?_
  rintro e w1 ⟨rfl, rfl⟩
  go_wp2_with fail
  go_ret2
  exact ⟨rfl, rfl⟩
end Go.Proofs.Qxb6604021aMods.Reps
