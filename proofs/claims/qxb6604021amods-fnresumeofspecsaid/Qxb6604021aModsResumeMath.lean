/- THE PLAIN LAW OF RESUMING: no Go in sight. -/
import Derived.Test.Qxb6604021aModsRows
namespace Go.Proofs.Qxb6604021aMods.Resume

/-- A position: term and index. -/
abbrev Pos := Int × Int

/-- a is less recent than b. -/
def bef (a b : Pos) : Prop := a.1 < b.1 ∨ (a.1 = b.1 ∧ a.2 < b.2)
/-- .. as a Bool that no walk takes apart. -/
def befB (a b : Pos) : Bool := decide (a.1 < b.1) || (decide (a.1 = b.1) && decide (a.2 < b.2))
theorem befB_iff (a b : Pos) : befB a b = true ↔ bef a b := by simp [befB, bef]
theorem befB_false (a b : Pos) : befB a b = false ↔ ¬ bef a b := by
  rw [← befB_iff]
  cases befB a b <;> simp

/-- f is the greatest of the first n positions, or (0, 0). -/
structure IsTop (p : Nat → Pos) (n : Nat) (f : Pos) : Prop where
  le : ∀ i, i < n → ¬ bef f (p i)
  hit : f = (0, 0) ∨ ∃ i, i < n ∧ p i = f

/-- f is the greatest of those that have come, or (0, 0). -/
structure TopOf (p : Nat → Pos) (n : Nat) (seen : Array Nat) (f : Pos) : Prop where
  le : ∀ i, i ∈ seen → ¬ bef f (p i)
  hit : f = (0, 0) ∨ ∃ i, i < n ∧ p i = f

theorem topOf_start (p : Nat → Pos) (n : Nat) : TopOf p n #[] (0, 0) := ⟨fun i hi => by simp at hi, .inl rfl⟩
theorem TopOf.up {p : Nat → Pos} {n i : Nat} {seen : Array Nat} {f : Pos} (h : TopOf p n seen f) (hi : i < n) (hb : bef f (p i)) : TopOf p n (seen.push i) (p i) := by
  refine ⟨fun j hj => ?_, .inr ⟨i, hi, rfl⟩⟩
  rcases Array.mem_push.1 hj with hj | rfl
  · have := h.le j hj
    unfold bef at *
    omega
  · unfold bef; omega
theorem TopOf.stay {p : Nat → Pos} {n i : Nat} {seen : Array Nat} {f : Pos} (h : TopOf p n seen f) (hb : ¬ bef f (p i)) : TopOf p n (seen.push i) f := by
  refine ⟨fun j hj => ?_, h.hit⟩
  rcases Array.mem_push.1 hj with hj | rfl
  · exact h.le j hj
  · exact hb
theorem TopOf.all {p : Nat → Pos} {n : Nat} {seen : Array Nat} {f : Pos} (h : TopOf p n seen f) (hs : ∀ i, i < n → i ∈ seen) : IsTop p n f := ⟨fun i hi => h.le i (hs i hi), h.hit⟩

/-- 'own is behind the top' just if it is behind one of them. -/
theorem IsTop.own {p : Nat → Pos} {n : Nat} {f own : Pos} (h : IsTop p n f) (ho : 0 ≤ own.1 ∧ 0 ≤ own.2) : bef own f ↔ ∃ i, i < n ∧ bef own (p i) := by
  constructor
  · intro hb
    rcases h.hit with rfl | ⟨i, hi, rfl⟩
    · unfold bef at hb; simp at hb; omega
    · exact ⟨i, hi, hb⟩
  · rintro ⟨i, hi, hb⟩
    have := h.le i hi
    unfold bef at *
    omega

/-- Where there is one, the top is one of them. -/
theorem IsTop.found {p : Nat → Pos} {n : Nat} {f : Pos} (h : IsTop p n f) (hn : 0 < n) (hp : ∀ i, i < n → 0 ≤ (p i).1 ∧ 0 ≤ (p i).2) : ∃ i, i < n ∧ p i = f := by
  rcases h.hit with rfl | h1
  · refine ⟨0, hn, ?_⟩
    have h2 := h.le 0 hn
    have h3 := hp 0 hn
    unfold bef at h2
    simp at h2
    exact Prod.ext (by show _ = (0 : Int); omega) (by show _ = (0 : Int); omega)
  · exact h1

/-- Is own behind one of the first k? -/
def late (p : Nat → Pos) (own : Pos) : Nat → Bool
  | 0 => false
  | k + 1 => late p own k || befB own (p k)
theorem late_iff (p : Nat → Pos) (own : Pos) (k : Nat) : late p own k = true ↔ ∃ i, i < k ∧ bef own (p i) := by
  induction k with
  | zero => simp [late]
  | succ k ih =>
    simp only [late, Bool.or_eq_true, ih, befB_iff]
    constructor
    · rintro (⟨i, hi, hb⟩ | hb)
      · exact ⟨i, by omega, hb⟩
      · exact ⟨k, by omega, hb⟩
    · rintro ⟨i, hi, hb⟩
      by_cases e : i = k
      · subst e; exact .inr hb
      · exact .inl ⟨i, by omega, hb⟩

/-- Is f among the first k? -/
def among (p : Nat → Pos) (f : Pos) : Nat → Bool
  | 0 => false
  | k + 1 => among p f k || decide (p k = f)
theorem among_of {p : Nat → Pos} {f : Pos} {i : Nat} (he : p i = f) : ∀ {k : Nat}, i < k → among p f k = true
  | k + 1, h => by
    by_cases e : i = k
    · subst e; simp [among, he]
    · simp [among, among_of he (show i < k by omega)]

/-- How many of the first k are marked and whole. -/
def cw (W U : Nat → Bool) : Nat → Nat
  | 0 => 0
  | k + 1 => cw W U k + if U k = true ∧ W k = true then 1 else 0
/-- How many of the first k are whole. -/
def whole (W : Nat → Bool) : Nat → Nat
  | 0 => 0
  | k + 1 => whole W k + if W k = true then 1 else 0
theorem whole_le (W : Nat → Bool) (k : Nat) : whole W k ≤ k := by
  induction k with
  | zero => simp [whole]
  | succ k ih => simp only [whole]; split <;> omega
theorem cw_le (W U : Nat → Bool) (k : Nat) : cw W U k ≤ k := by
  induction k with
  | zero => simp [cw]
  | succ k ih => simp only [cw]; split <;> omega
theorem cw_congr {W U U' : Nat → Bool} {n : Nat} (h : ∀ k, k < n → U k = U' k) : cw W U n = cw W U' n := by
  induction n with
  | zero => rfl
  | succ n ih => simp only [cw]; rw [ih (fun k hk => h k (by omega)), h n (by omega)]
theorem cw_none (W : Nat → Bool) (n : Nat) : cw W (fun k => (#[] : Array Nat).contains k) n = 0 := by
  induction n with
  | zero => rfl
  | succ n ih => simp only [cw, ih]; simp
theorem cw_push (W : Nat → Bool) (seen : Array Nat) (j n : Nat) (hj : j < n) (hs : seen.contains j = false) : cw W (fun k => (seen.push j).contains k) n = cw W (fun k => seen.contains k) n + if W j = true then 1 else 0 := by
  have hc : ∀ k, (seen.push j).contains k = (seen.contains k || k == j) := fun k => Array.contains_push ..
  induction n with
  | zero => omega
  | succ n ih =>
    simp only [cw]
    by_cases e : j = n
    · subst e
      have h1 : cw W (fun k => (seen.push j).contains k) j = cw W (fun k => seen.contains k) j := cw_congr fun k hk => by
        rw [hc]
        have : (k == j) = false := by simp; omega
        rw [this, Bool.or_false]
      have h2 : (seen.push j).contains j = true := by rw [hc]; simp
      rw [h1]
      simp only [h2, hs]
      simp
    · have h2 : (seen.push j).contains n = seen.contains n := by
        rw [hc]
        have : (n == j) = false := by simp; omega
        rw [this, Bool.or_false]
      simp only [h2]
      rw [ih (by omega)]
      omega
theorem cw_all {W : Nat → Bool} {seen : Array Nat} {n : Nat} (h : ∀ i, i < n → i ∈ seen) : cw W (fun k => seen.contains k) n = whole W n := by
  induction n with
  | zero => rfl
  | succ n ih =>
    simp only [cw, whole]
    rw [ih (fun i hi => h i (by omega))]
    simp [h n (by omega)]
end Go.Proofs.Qxb6604021aMods.Resume
