/- THE PLAIN LAW OF THE HEAP: no Go in sight. -/
import Derived.Test.Qxb6604021aModsRows
namespace Go.Proofs.Qxb6604021aMods.Heap

/-- A record: its end, its length, its register. -/
abbrev Rec := Int × Int × Int

/-- How many of the first k are r. -/
def cnt (R : Nat → Rec) (r : Rec) : Nat → Nat
  | 0 => 0
  | k + 1 => cnt R r k + if R k = r then 1 else 0

def upd (R : Nat → Rec) (i : Nat) (v : Rec) : Nat → Rec := fun k => if k = i then v else R k
def swap (R : Nat → Rec) (i j : Nat) : Nat → Rec := upd (upd R i (R j)) j (R i)

theorem cnt_congr {R R' : Nat → Rec} {r : Rec} {n : Nat} (h : ∀ k, k < n → R k = R' k) : cnt R r n = cnt R' r n := by
  induction n with
  | zero => rfl
  | succ n ih => simp only [cnt]; rw [ih (fun k hk => h k (by omega)), h n (by omega)]

theorem cnt_upd (R : Nat → Rec) (i : Nat) (v r : Rec) (n : Nat) (hi : i < n) : cnt (upd R i v) r n + (if R i = r then 1 else 0) = cnt R r n + (if v = r then 1 else 0) := by
  induction n with
  | zero => omega
  | succ n ih =>
    simp only [cnt]
    by_cases e : i = n
    · subst e
      have h1 : cnt (upd R i v) r i = cnt R r i := cnt_congr fun k hk => by simp [upd, show ¬ k = i by omega]
      have h2 : upd R i v i = v := by simp [upd]
      rw [h1, h2]
      omega
    · have h2 : upd R i v n = R n := by simp [upd, show ¬ n = i by omega]
      have := ih (by omega)
      rw [h2]
      omega

theorem cnt_swap (R : Nat → Rec) (i j : Nat) (r : Rec) (n : Nat) (hi : i < n) (hj : j < n) : cnt (swap R i j) r n = cnt R r n := by
  have h1 := cnt_upd R i (R j) r n hi
  have h2 := cnt_upd (upd R i (R j)) j (R i) r n hj
  have e : upd R i (R j) j = R j := by unfold upd; split <;> rfl
  rw [e] at h2
  unfold swap
  omega

theorem cnt_pos {R : Nat → Rec} {n k : Nat} (hk : k < n) : 0 < cnt R (R k) n := by
  induction n with
  | zero => omega
  | succ n ih =>
    simp only [cnt]
    by_cases e : k = n
    · subst e; simp
    · have := ih (by omega); omega

theorem of_cnt_pos {R : Nat → Rec} {r : Rec} {n : Nat} (h : 0 < cnt R r n) : ∃ k, k < n ∧ R k = r := by
  induction n with
  | zero => simp [cnt] at h
  | succ n ih =>
    by_cases e : R n = r
    · exact ⟨n, by omega, e⟩
    · simp only [cnt, e, if_false] at h
      obtain ⟨k, hk, he⟩ := ih (by omega)
      exact ⟨k, by omega, he⟩

theorem cnt_mono (R : Nat → Rec) (r : Rec) {k n : Nat} (h : k ≤ n) : cnt R r k ≤ cnt R r n := by
  induction n with
  | zero => obtain rfl : k = 0 := by omega
            exact Nat.le_refl _
  | succ n ih =>
    by_cases e : k = n + 1
    · subst e; exact Nat.le_refl _
    · have := ih (by omega)
      simp only [cnt]
      omega

/-- Each record ends no earlier than the one above it. -/
def IsHeap (R : Nat → Rec) (n : Nat) : Prop := ∀ k, 1 ≤ k → k < n → (R ((k - 1) / 2)).1 ≤ (R k).1

theorem heap_min {R : Nat → Rec} {n : Nat} (h : IsHeap R n) : ∀ k, k < n → (R 0).1 ≤ (R k).1 := by
  intro k
  induction k using Nat.strongRecOn with
  | _ k ih =>
    intro hk
    by_cases e : k = 0
    · subst e; exact Int.le_refl _
    · have h1 := ih ((k - 1) / 2) (by omega) (by omega)
      have h2 := h k (by omega) hk
      omega

/-- The heap while a record sinks from the top, now at i. -/
structure Sift (R0 : Nat → Rec) (m : Nat) (R : Nat → Rec) (i : Nat) : Prop where
  perm : ∀ r, cnt R r m = cnt R0 r m
  heap : ∀ k, 1 ≤ k → k < m → (k - 1) / 2 ≠ i → (R ((k - 1) / 2)).1 ≤ (R k).1
  gap : ∀ k, 1 ≤ k → k < m → (k - 1) / 2 = i → 1 ≤ i → (R ((i - 1) / 2)).1 ≤ (R k).1

theorem sift_start {R : Nat → Rec} {m : Nat} (h : IsHeap R (m + 1)) : Sift (upd R 0 (R m)) m (upd R 0 (R m)) 0 := by
  refine ⟨fun _ => rfl, fun k h1 h2 h3 => ?_, fun k _ _ _ h => by omega⟩
  have h4 : ¬ (k - 1) / 2 = 0 := h3
  have h5 : ¬ k = 0 := by omega
  simp only [upd, h4, h5, if_false]
  exact h k h1 (by omega)

theorem sift_step {R0 R : Nat → Rec} {m i l : Nat} (h : Sift R0 m R i) (hi : i < m) (hl : l < m) (hp : 1 ≤ l ∧ (l - 1) / 2 = i) (hlt : (R l).1 < (R i).1) (hmin : ∀ k, 1 ≤ k → k < m → (k - 1) / 2 = i → (R l).1 ≤ (R k).1) :
    Sift R0 m (swap R i l) l := by
  have hil : ¬ i = l := by omega
  have hli : ¬ l = i := by omega
  have si : swap R i l i = R l := by simp [swap, upd, hil]
  have sl : swap R i l l = R i := by simp [swap, upd]
  have so : ∀ k, ¬ k = i → ¬ k = l → swap R i l k = R k := fun k h1 h2 => by simp [swap, upd, h1, h2]
  refine ⟨fun r => by rw [cnt_swap R i l r m hi hl, h.perm r], fun k h1 h2 h3 => ?_, fun k h1 h2 h3 _ => ?_⟩
  · by_cases hk : k = i
    · subst hk
      rw [si, so _ (by omega) (by omega)]
      have := h.gap l hp.1 hl hp.2 h1
      exact this
    · by_cases hkl : k = l
      · subst hkl
        rw [sl, hp.2, si]
        omega
      · by_cases hpi : (k - 1) / 2 = i
        · rw [hpi, si, so _ hk hkl]
          exact hmin k h1 h2 hpi
        · rw [so _ hpi h3, so _ hk hkl]
          exact h.heap k h1 h2 hpi
  · have hk : ¬ k = i := by omega
    have hkl : ¬ k = l := by omega
    rw [hp.2, si, so _ hk hkl]
    have := h.heap k h1 h2 (by omega)
    rw [h3] at this
    exact this

theorem sift_end {R0 R : Nat → Rec} {m i : Nat} (h : Sift R0 m R i) (hmin : ∀ k, 1 ≤ k → k < m → (k - 1) / 2 = i → (R i).1 ≤ (R k).1) : IsHeap R m := by
  intro k h1 h2
  by_cases e : (k - 1) / 2 = i
  · rw [e]; exact hmin k h1 h2 e
  · exact h.heap k h1 h2 e

/-- What popping makes of the first m + 1 records R: the first m of R', the top struck. -/
structure Popped (R : Nat → Rec) (m : Nat) (R' : Nat → Rec) : Prop where
  heap : IsHeap R' m
  perm : ∀ r, cnt R' r m + (if R 0 = r then 1 else 0) = cnt R r (m + 1)

theorem popped_of {R R' : Nat → Rec} {m : Nat} (h : ∀ r, cnt R' r m = cnt (upd R 0 (R m)) r m) (hh : IsHeap R' m) : Popped R m R' := by
  refine ⟨hh, fun r => ?_⟩
  rw [h r]
  by_cases e : m = 0
  · subst e; simp [cnt]
  · have := cnt_upd R 0 (R m) r m (by omega)
    simp only [cnt]
    omega

/-- What was left by a pop of a heap ends no earlier than the top. -/
theorem Popped.min {R R' : Nat → Rec} {m : Nat} (h : Popped R m R') (hh : IsHeap R (m + 1)) : ∀ k, k < m → (R 0).1 ≤ (R' k).1 := by
  intro k hk
  have h1 := cnt_pos (R := R') hk
  have h2 := h.perm (R' k)
  obtain ⟨j, hj, he⟩ := of_cnt_pos (R := R) (r := R' k) (n := m + 1) (by omega)
  rw [← he]
  exact heap_min hh j hj

/-! The greedy matching of two lists. -/

/-- How many of the first k are r and are marked. -/
def cntU (b : Nat → Rec) (U : Nat → Bool) (r : Rec) : Nat → Nat
  | 0 => 0
  | k + 1 => cntU b U r k + if U k = true ∧ b k = r then 1 else 0

def mark (U : Nat → Bool) (j : Nat) : Nat → Bool := fun k => if k = j then true else U k

theorem cntU_congr {b : Nat → Rec} {U U' : Nat → Bool} {r : Rec} {n : Nat} (h : ∀ k, k < n → U k = U' k) : cntU b U r n = cntU b U' r n := by
  induction n with
  | zero => rfl
  | succ n ih => simp only [cntU]; rw [ih (fun k hk => h k (by omega)), h n (by omega)]

theorem cntU_mark (b : Nat → Rec) (U : Nat → Bool) (r : Rec) (j n : Nat) (hj : j < n) (hU : U j = false) : cntU b (mark U j) r n = cntU b U r n + if b j = r then 1 else 0 := by
  induction n with
  | zero => omega
  | succ n ih =>
    simp only [cntU]
    by_cases e : j = n
    · subst e
      have h1 : cntU b (mark U j) r j = cntU b U r j := cntU_congr fun k hk => by simp [mark, show ¬ k = j by omega]
      have h2 : mark U j j = true := by simp [mark]
      rw [h1, h2, hU]
      simp
    · have h2 : mark U j n = U n := by simp [mark, show ¬ n = j by omega]
      have := ih (by omega)
      rw [h2]
      omega

theorem cntU_none (b : Nat → Rec) (r : Rec) (n : Nat) : cntU b (fun _ => false) r n = 0 := by
  induction n with
  | zero => rfl
  | succ n ih => simp [cntU, ih]

theorem cntU_full {b : Nat → Rec} {U : Nat → Bool} {r : Rec} {n : Nat} (h : ∀ k, k < n → b k = r → U k = true) : cntU b U r n = cnt b r n := by
  induction n with
  | zero => rfl
  | succ n ih =>
    simp only [cntU, cnt]
    rw [ih (fun k hk => h k (by omega))]
    by_cases e : b n = r
    · simp [e, h n (by omega) e]
    · simp [e]

/-- After i elements of a have been matched. -/
def Matched (a b : Nat → Rec) (n : Nat) (i : Nat) (U : Nat → Bool) : Prop := ∀ r, cnt a r i = cntU b U r n

theorem matched_start (a b : Nat → Rec) (n : Nat) : Matched a b n 0 (fun _ => false) := fun r => by rw [cntU_none]; rfl
theorem matched_step {a b : Nat → Rec} {n i j : Nat} {U : Nat → Bool} (h : Matched a b n i U) (hj : j < n) (hU : U j = false) (he : a i = b j) : Matched a b n (i + 1) (mark U j) := by
  intro r
  rw [cntU_mark b U r j n hj hU, ← h r, ← he]
  rfl
theorem matched_next {a b : Nat → Rec} {n i : Nat} {U : Nat → Bool} (h : Matched a b n i U) (hp : ∀ r, cnt a r n = cnt b r n) (hi : i < n) : ∃ j, j < n ∧ U j = false ∧ a i = b j := by
  apply Classical.byContradiction
  intro hno
  have hfull : cntU b U (a i) n = cnt b (a i) n := cntU_full fun k hk he => by
    cases hU : U k with
    | true => rfl
    | false => exact absurd ⟨k, hk, hU, he.symm⟩ hno
  have h1 := h (a i)
  have h2 := hp (a i)
  have h3 := cnt_mono a (a i) (show i + 1 ≤ n by omega)
  simp only [cnt, if_true] at h3
  omega

/-! Draining. -/

/-- After k pops: 'out' holds the k that have come, R the rest. -/
structure Drained (R0 : Nat → Rec) (n : Nat) (k : Nat) (out R : Nat → Rec) : Prop where
  heap : IsHeap R (n - k)
  perm : ∀ r, cnt out r k + cnt R r (n - k) = cnt R0 r n
  sorted : ∀ i, i + 1 < k → (out i).1 ≤ (out (i + 1)).1
  last : ∀ i j, i < k → j < n - k → (out i).1 ≤ (R j).1

theorem drained_start {R0 : Nat → Rec} {n : Nat} (h : IsHeap R0 n) (out : Nat → Rec) : Drained R0 n 0 out R0 :=
  ⟨by simpa using h, fun r => by simp [cnt], fun i hi => by omega, fun i j hi => by omega⟩

theorem drained_step {R0 R R' out : Nat → Rec} {n k m : Nat} (h : Drained R0 n k out R) (hk : k < n) (hm : n - k = m + 1) (hp : Popped R m R') : Drained R0 n (k + 1) (upd out k (R 0)) R' := by
  have hm' : n - (k + 1) = m := by omega
  have hheap := h.heap
  rw [hm] at hheap
  have ho : ∀ i, i < k → upd out k (R 0) i = out i := fun i hi => by simp [upd, show ¬ i = k by omega]
  have hok : upd out k (R 0) k = R 0 := by simp [upd]
  refine ⟨by rw [hm']; exact hp.heap, fun r => ?_, fun i hi => ?_, fun i j hi hj => ?_⟩
  · rw [hm']
    have h1 := hp.perm r
    have h2 := h.perm r
    rw [hm] at h2
    have h3 : cnt (upd out k (R 0)) r k = cnt out r k := cnt_congr fun i hi => ho i hi
    simp only [cnt, h3, hok] at *
    omega
  · by_cases e : i + 1 = k
    · rw [e, hok, ho i (by omega)]
      exact h.last i 0 (by omega) (by omega)
    · rw [ho i (by omega), ho (i + 1) (by omega)]
      exact h.sorted i (by omega)
  · rw [hm'] at hj
    by_cases e : i = k
    · subst e
      rw [hok]
      exact hp.min hheap j hj
    · rw [ho i (by omega)]
      have h1 := cnt_pos (R := R') hj
      have h2 := hp.perm (R' j)
      obtain ⟨q, hq, he⟩ := of_cnt_pos (R := R) (r := R' j) (n := m + 1) (by omega)
      rw [← he]
      exact h.last i q (by omega) (by omega)
end Go.Proofs.Qxb6604021aMods.Heap
