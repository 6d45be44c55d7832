import Derived.Test.Qxb6604021aModsRepBuild
import Derived.Test.Qxb6604021aModsResumeOf
namespace Go.Proofs.Qxb6604021aMods.Reps
open Go.RowKit
open Grid (Grid)
open Resume (Pos bef befB IsTop TopOf cw whole late among)

theorem resume13 (M n : Nat) (members ot oi : Int) (rcv : Bool) (T : Nat → Int) (S : Nat → ByteArray) (P I : Nat → Int) (w : World) (hn : n ≤ 65536) (hm : 1 ≤ members) (hm2 : members ≤ 9223372036854775807) (hM : MapIs w M (repV T S P I) n) :
    Calls Trym.prog 13 #[.int .i64 members, .int .u64 ot, .int .u64 oi, .bool rcv, .map (some M)] w fun e w' => Resumed w members (ot, oi) rcv n (isWs S) (poss P I) e w' := by
  have h : Calls Trym.prog 29 #[.int .i64 members, .agg #[.int .u64 ot, .int .u64 oi], .bool rcv, .map (some M)] w fun e w' => Resumed w members (ot, oi) rcv n (isWs S) (poss P I) e w' := resume29 M n members (ot, oi) rcv T S P I w hn hm hm2 hM
  go_enter Trym.func13, Trym.ntmps13
  go_wp2_with fail
  refine h.mono ?_
  rintro e w' ⟨f, F, hT, hb, h1 | h1 | h1⟩
  · obtain ⟨h1, rfl⟩ := h1
    have H : Hid (members < 2 * (whole (isWs S) n : Int)) := h1
    clear h1 h
    go_wp2_with fail
    go_ret2
    exact ⟨f, F, hT, hb, .inl ⟨H.out, rfl⟩⟩
  · obtain ⟨h1, h2, h3, rfl⟩ := h1
    have H : Hid (2 * (whole (isWs S) n : Int) ≤ members ∧ rcv = false ∧ befB (ot, oi) f = false) := ⟨Int.not_lt.1 h1, h2, h3⟩
    clear h1 h2 h3 h
    go_wp2_with fail
    go_ret2
    exact ⟨f, F, hT, hb, .inr (.inl ⟨Int.not_lt.2 H.out.1, H.out.2.1, H.out.2.2, rfl⟩)⟩
  · obtain ⟨h1, h2, rfl, h4⟩ := h1
    have H : Hid (2 * (whole (isWs S) n : Int) ≤ members ∧ (rcv = true ∨ befB (ot, oi) f = true)) := ⟨Int.not_lt.1 h1, h2⟩
    clear h1 h2 h
    go_wp2_with fail
    go_ret2
    exact ⟨f, F, hT, hb, .inr (.inr ⟨Int.not_lt.2 H.out.1, H.out.2, rfl, h4⟩)⟩

theorem built (M B len : Nat) (T : Nat → Int) (S : Nat → ByteArray) (P I : Nat → Int) (w : World) (hM : w.heap.size = M) (hl : len ≤ 65536) (hg : Grid w B 33 4 len (repF T S P I)) :
    Calls Trym.prog 11 #[.slice (some ⟨B, 0, none⟩) len len] w fun e w' => e = .returned (.map (some M)) ∧ MapIs w' M (repV T S P I) len ∧ w'.heap.size = M + 1 ∧ Below M w w' := by
  subst hM
  exact build11 B len T S P I w hl hg

theorem recov_yes : (recovS.toList == [114, 101, 99, 111, 118, 101, 114, 105, 110, 103]) = true := by simp [recovS, ByteArray.toList_eq]
theorem whole_yes : (wholeS.toList == [119, 104, 111, 108, 101]) = true := by simp [wholeS, ByteArray.toList_eq]

/-- The world is as it was but for draws. -/
structure Same (w w' : World) : Prop where
  heap : w'.heap = w.heap
  os : w'.os = w.os
  tape : w'.tape = w.tape
  output : w'.output = w.output
theorem Same.refl (w : World) : Same w w := ⟨rfl, rfl, rfl, rfl⟩
theorem Same.drewN {w w' : World} (h : Same w w') (n : Nat) : Same w (w'.drewN n) := ⟨h.heap, h.os, h.tape, h.output⟩
theorem Same.below {w w' : World} (h : Same w w') (B : Nat) : Below B w w' := ⟨h.os, h.tape, h.output, by rw [h.heap]; exact Nat.le_refl _, fun k _ => by rw [h.heap]⟩
theorem Same.cell {w w' : World} (h : Same w w') (a : Addr) : w'.cell? a = w.cell? a := by simp [World.cell?, h.heap]

/-- The outcome, its two values by names. -/
def Outcome (members : Int) (own : Pos) (rcv : Bool) (c : Nat) (f : Pos) (w : World) (st : ByteArray) (p : Option Addr) : Prop :=
  (members < 2 * (c : Int) ∧ st = recovS ∧ p = none) ∨
  (2 * (c : Int) ≤ members ∧ rcv = false ∧ befB own f = false ∧ st = wholeS ∧ p = none) ∨
  (2 * (c : Int) ≤ members ∧ (rcv = true ∨ befB own f = true) ∧ st = recovS ∧ ∃ F, p = some ⟨F, 0, none⟩ ∧ w.rowIs F 64 2 (posF f))

theorem outcome_of {w : World} {members : Int} {own : Pos} {rcv : Bool} {n : Nat} {W : Nat → Bool} {ps : Nat → Pos} {e : Ending} {w' : World} (h : Resumed w members own rcv n W ps e w') :
    ∃ f st p, e = .returned (.tuple #[.string st, .pointer p]) ∧ IsTop ps n f ∧ Below w.heap.size w w' ∧ Outcome members own rcv (whole W n) f w' st p := by
  obtain ⟨f, F, hT, hb, ⟨h1, rfl⟩ | ⟨h1, h2, h3, rfl⟩ | ⟨h1, h2, rfl, h4⟩⟩ := h
  · exact ⟨f, _, _, rfl, hT, hb, .inl ⟨h1, rfl, rfl⟩⟩
  · exact ⟨f, _, _, rfl, hT, hb, .inr (.inl ⟨Int.not_lt.1 h1, h2, h3, rfl, rfl⟩)⟩
  · exact ⟨f, _, _, rfl, hT, hb, .inr (.inr ⟨Int.not_lt.1 h1, h2, rfl, F, rfl, h4⟩)⟩

set_option maxRecDepth 20000 in
set_option maxHeartbeats 4000000 in
theorem resumeof (x : Addr) (len cap : Nat) (members ot oi : Int) (rcv : Bool) (T : Nat → Int) (S : Nat → ByteArray) (P I : Nat → Int) (w : World) (hl : len ≤ 65536) (hm : 1 ≤ members) (hm2 : members ≤ 9223372036854775807) (ho : 0 ≤ ot ∧ 0 ≤ oi) (hc : Reps w x len T S P I) (hp : ∀ i, i < len → 0 ≤ P i ∧ 0 ≤ I i) :
    Calls Trym.prog 4 #[.int .i64 members, .int .u64 ot, .int .u64 oi, .bool rcv, .slice (some x) len cap] w fun e w' => e = .returned (.bool true) ∧ Below w.heap.size w w' := by
  have h12 := bytes12 x len cap T S P I members ot oi rcv w (by omega) hc
  have h8 := bytes8 x len cap T S P I w hl hc
  have h9 := clone9 x len cap T S P I w hl hc
  clear hc
  go_enter Trym.func4, Trym.ntmps4
  go_wp2_with fail
  refine h12.mono ?_
  rintro e w' ⟨⟨b, rfl, -⟩, rfl⟩
  clear h12
  cases b with
  | false =>
    go_wp2_with fail
    go_ret
    exact ⟨rfl, Below.refl _ _⟩
  | true =>
  go_wp2_with fail
  refine h8.mono ?_
  rintro e w' ⟨⟨z, rfl⟩, rfl⟩
  clear h8
  by_cases hz : 1048576 < z
  · go_wp2_with fail
    go_ret
    exact ⟨rfl, Below.refl _ _⟩
  go_wp2_with fail
  refine h9.mono ?_
  clear h9
  rintro e w1 ⟨rfl, hg1, hs1, hb1⟩
  have h11 := built (w.heap.size + 1) w.heap.size len T S P I w1 hs1 hl hg1
  go_wp2_with fail
  refine h11.mono ?_
  clear h11
  rintro e w2 ⟨rfl, hM, hs2, hb2⟩
  have h13 := resume13 (w.heap.size + 1) len members ot oi rcv T S P I w2 hl hm hm2 hM
  go_wp2_with fail
  refine h13.mono ?_
  clear h13
  rintro e w3 hres
  obtain ⟨f, st, p, rfl, hT, hb3, hout⟩ := outcome_of hres
  clear hres
  have hg3 : Grid w3 w.heap.size 33 4 len (repF T S P I) := (hg1.below hb2 (by omega)).below hb3 (by omega)
  have hbl := hb1.trans ((hb2.mono (by omega)).trans (hb3.mono (by omega)))
  clear hs1 hs2 hb1 hb2 hb3 hM hg1
  have HT : Hid (IsTop (poss P I) len f) := hT
  have HP : Hid (∀ i, i < len → 0 ≤ P i ∧ 0 ≤ I i) := hp
  clear hT hp
  have c1 : ∀ k, k < len → w3.cell? ⟨w.heap.size, k * 4 + 1, none⟩ = some (.string (S k)) := fun k hk => hg3.cell (r := 1) hk (by omega)
  have c2 : ∀ k, k < len → w3.cell? ⟨w.heap.size, k * 4 + 2, none⟩ = some (.int .u64 (P k)) := fun k hk => hg3.cell (r := 2) hk (by omega)
  have c3 : ∀ k, k < len → w3.cell? ⟨w.heap.size, k * 4 + 3, none⟩ = some (.int .u64 (I k)) := fun k hk => hg3.cell (r := 3) hk (by omega)
  clear hg3
  have HO : Hid (Outcome members (ot, oi) rcv (whole (isWs S) len) f w3 st p) := hout
  clear hout
  go_wp2_with fail
  go_loop [13, 14] (fun c i => ∃ k : Nat, k ≤ len ∧ i = .int .i64 k ∧ c = .int .i64 (whole (isWs S) k)) (fun _ i => len - (intOf i).toNat)
  case atStart => exact ⟨0, Nat.zero_le _, rfl, rfl⟩
  case round =>
    obtain ⟨k, hk, rfl, rfl⟩ := hrel
    have hwl := Resume.whole_le (isWs S) k
    by_cases hlt : k < len
    · have hc1 := c1 k hlt
      have h14 := whole14 (S k) w3
      cases hW : isW (S k) with
      | true =>
        rw [hW] at h14
        have HK : Hid ((whole (isWs S) (k + 1) : Int) = (whole (isWs S) k : Int) + 1) := by show _ = _; simp [whole, isWs, hW]
        go_wp2_with fail
        refine h14.mono ?_
        rintro e w4 ⟨rfl, rfl⟩
        go_wp2_with fail
        go_round
        case rel => exact ⟨k + 1, by omega, by go_num, by rw [HK.out]⟩
        case measure => simp [intOf]; omega
      | false =>
        rw [hW] at h14
        have HK : Hid ((whole (isWs S) (k + 1) : Int) = (whole (isWs S) k : Int)) := by show _ = _; simp [whole, isWs, hW]
        go_wp2_with fail
        refine h14.mono ?_
        rintro e w4 ⟨rfl, rfl⟩
        go_wp2_with fail
        go_round
        case rel => exact ⟨k + 1, by omega, by go_num, by rw [HK.out]⟩
        case measure => simp [intOf]; omega
    · obtain rfl : k = len := by omega
      clear hlt hk c1
      rcases HO.out with ⟨h1, rfl, rfl⟩ | hrest
      · have hy := recov_yes
        go_wp2_with fail
        go_ret
        exact ⟨rfl, hbl⟩
      · have hle : 2 * (whole (isWs S) k : Int) ≤ members := by rcases hrest with h | h <;> exact h.1
        have HR : Hid ((rcv = false ∧ befB (ot, oi) f = false ∧ st = wholeS ∧ p = none) ∨ ((rcv = true ∨ befB (ot, oi) f = true) ∧ st = recovS ∧ ∃ F, p = some ⟨F, 0, none⟩ ∧ w3.rowIs F 64 2 (posF f))) := by
          rcases hrest with ⟨_, h⟩ | ⟨_, h⟩
          · exact .inl h
          · exact .inr h
        clear hrest HO
        go_wp2_with fail
        go_loopw [15, 16] (fun s i wr => ∃ q : Nat, q ≤ k ∧ i = .int .i64 q ∧ s = .bool (!late (poss P I) (ot, oi) q) ∧ Same w3 wr) (fun _ i _ => k - (intOf i).toNat)
        case atStart => exact ⟨0, Nat.zero_le _, rfl, rfl, Same.refl _⟩
        case round =>
          obtain ⟨q, hq, rfl, rfl, hK⟩ := hrel
          by_cases hql : q < k
          · have e2 := (hK.cell _).trans (c2 q hql)
            have e3 := (hK.cell _).trans (c3 q hql)
            have hbh : ∀ W, Calls Trym.prog 15 #[.int .u64 ot, .int .u64 oi, .int .u64 (P q), .int .u64 (I q)] W fun e w' => e = .returned (.bool (befB (ot, oi) (P q, I q))) ∧ w' = W := fun W => (behind15 (ot, oi) (P q, I q) W).mono fun e w' ⟨h1, h2⟩ => ⟨h1, h2.symm⟩
            have hql' : (q : Int) < (k : Int) := by omega
            cases hB : befB (ot, oi) (P q, I q) with
            | true =>
              rw [hB] at hbh
              have HK : Hid (late (poss P I) (ot, oi) (q + 1) = true) := by show _ = _; simp [late, poss, hB]
              clear hB
              go_wp2_with fail
              go_quiet ((go_at_call 15; exact Calls.quiet_of_same (hbh _)))
              go_wp2_with fail
              go_roundw
              case rel => exact ⟨q + 1, by omega, by go_num, by rw [HK.out]; rfl, hK.drewN _⟩
              case measure => simp [intOf]; omega
            | false =>
              rw [hB] at hbh
              have HK : Hid (late (poss P I) (ot, oi) (q + 1) = late (poss P I) (ot, oi) q) := by show _ = _; simp [late, poss, hB]
              clear hB
              go_wp2_with fail
              go_quiet ((go_at_call 15; exact Calls.quiet_of_same (hbh _)))
              go_wp2_with fail
              go_roundw
              case rel => exact ⟨q + 1, by omega, by go_num, by rw [HK.out], hK.drewN _⟩
              case measure => simp [intOf]; omega
          · obtain rfl : q = k := by omega
            rcases HR.out with ⟨rfl, h3, rfl, rfl⟩ | ⟨h2, rfl, F, rfl, hrow⟩
            · have hla : late (poss P I) (ot, oi) q = false := by
                cases hx : late (poss P I) (ot, oi) q with
                | false => rfl
                | true =>
                  have := (HT.out.own (own := (ot, oi)) ho).2 ((Resume.late_iff _ _ _).1 hx)
                  rw [← Resume.befB_iff, h3] at this
                  cases this
              rw [hla]
              have hy := whole_yes
              clear hla h3 HR
              go_wp2_with fail
              go_ret
              exact ⟨rfl, hbl.trans (hK.below _)⟩
            · clear HR
              cases rcv with
              | true =>
                clear h2
                have hpos : Calls Trym.prog 16 #[.pointer (some ⟨F, 0, none⟩)] wr fun e w' => e = .returned (.tuple #[.int .u64 f.1, .int .u64 f.2]) ∧ Same w3 w' := (position16 F f wr (hrow.of_block (by rw [hK.heap]))).mono fun e w' ⟨h1, n, h2⟩ => ⟨h1, by rw [h2]; exact hK.drewN n⟩
                have hy := recov_yes
                clear hrow
                go_wp2_with fail
                refine hpos.mono ?_
                clear hpos hy
                rintro e w5 ⟨rfl, hK5⟩
                by_cases hq0 : q = 0
                · subst hq0
                  have hf0 : f = (0, 0) := by
                    rcases HT.out.hit with h | ⟨i, hi, _⟩
                    · exact h
                    · omega
                  subst hf0
                  go_wp2_with fail
                  go_ret
                  exact ⟨rfl, hbl.trans (hK5.below _)⟩
                · have hkz : ((q : Int) == 0) = false := by simp; omega
                  have HF : Hid (among (poss P I) f q = true) := by
                    obtain ⟨i, hi, he⟩ := HT.out.found (by omega) HP.out
                    exact Resume.among_of he hi
                  clear hq0
                  go_wp2_with fail
                  go_loopw [19, 20] (fun s i wr => ∃ r : Nat, r ≤ q ∧ i = .int .i64 r ∧ s = .bool (among (poss P I) f r) ∧ Same w3 wr) (fun _ i _ => q - (intOf i).toNat)
                  case atStart => exact ⟨0, Nat.zero_le _, rfl, rfl, hK5⟩
                  case round =>
                    obtain ⟨r, hr, rfl, rfl, hK3⟩ := hrel
                    by_cases hql : r < q
                    · have e2 := (hK3.cell _).trans (c2 r hql)
                      have e3 := (hK3.cell _).trans (c3 r hql)
                      have hnb : befB f (P r, I r) = false := (Resume.befB_false _ _).2 (HT.out.le r hql)
                      have hbh : ∀ W, Calls Trym.prog 15 #[.int .u64 f.1, .int .u64 f.2, .int .u64 (P r), .int .u64 (I r)] W fun e w' => e = .returned (.bool (befB f (P r, I r))) ∧ w' = W := fun W => (behind15 f (P r, I r) W).mono fun e w' ⟨h1, h2⟩ => ⟨h1, h2.symm⟩
                      rw [hnb] at hbh
                      have hql' : (r : Int) < (q : Int) := by omega
                      clear hnb
                      by_cases ht1 : P r = f.1
                      · by_cases ht2 : I r = f.2
                        · have b1 : (P r == f.1) = true := by simp [ht1]
                          have b2 : (I r == f.2) = true := by simp [ht2]
                          have HK : Hid (among (poss P I) f (r + 1) = true) := by
                            have : poss P I r = f := Prod.ext ht1 ht2
                            show _ = _; simp [among, this]
                          clear ht1 ht2
                          go_wp2_with fail
                          go_quiet ((go_at_call 15; exact Calls.quiet_of_same (hbh _)))
                          go_wp2_with fail
                          go_roundw
                          case rel => exact ⟨r + 1, by omega, by go_num, by rw [HK.out], hK3.drewN _⟩
                          case measure => simp [intOf]; omega
                        · have b1 : (P r == f.1) = true := by simp [ht1]
                          have b2 : (I r == f.2) = false := by simp [ht2]
                          have HK : Hid (among (poss P I) f (r + 1) = among (poss P I) f r) := by
                            have : ¬ poss P I r = f := fun h => ht2 (by rw [← h]; rfl)
                            show _ = _; simp [among, this]
                          clear ht1 ht2
                          go_wp2_with fail
                          go_quiet ((go_at_call 15; exact Calls.quiet_of_same (hbh _)))
                          go_wp2_with fail
                          go_roundw
                          case rel => exact ⟨r + 1, by omega, by go_num, by rw [HK.out], hK3.drewN _⟩
                          case measure => simp [intOf]; omega
                      · have b1 : (P r == f.1) = false := by simp [ht1]
                        have HK : Hid (among (poss P I) f (r + 1) = among (poss P I) f r) := by
                          have : ¬ poss P I r = f := fun h => ht1 (by rw [← h]; rfl)
                          show _ = _; simp [among, this]
                        clear ht1
                        go_wp2_with fail
                        go_quiet ((go_at_call 15; exact Calls.quiet_of_same (hbh _)))
                        go_wp2_with fail
                        go_roundw
                        case rel => exact ⟨r + 1, by omega, by go_num, by rw [HK.out], hK3.drewN _⟩
                        case measure => simp [intOf]; omega
                    · obtain rfl : r = q := by omega
                      rw [HF.out]
                      go_wp2_with fail
                      go_ret
                      exact ⟨rfl, hbl.trans (hK3.below _)⟩
              | false =>
                have h3 : befB (ot, oi) f = true := by
                  rcases h2 with h | h
                  · cases h
                  · exact h
                have hla : late (poss P I) (ot, oi) q = true := (Resume.late_iff _ _ _).2 ((HT.out.own (own := (ot, oi)) ho).1 ((Resume.befB_iff _ _).1 h3))
                rw [hla]
                clear h2 h3 hla
                have hpos : Calls Trym.prog 16 #[.pointer (some ⟨F, 0, none⟩)] wr fun e w' => e = .returned (.tuple #[.int .u64 f.1, .int .u64 f.2]) ∧ Same w3 w' := (position16 F f wr (hrow.of_block (by rw [hK.heap]))).mono fun e w' ⟨h1, n, h2⟩ => ⟨h1, by rw [h2]; exact hK.drewN n⟩
                have hy := recov_yes
                clear hrow
                go_wp2_with fail
                refine hpos.mono ?_
                clear hpos hy
                rintro e w5 ⟨rfl, hK5⟩
                by_cases hq0 : q = 0
                · subst hq0
                  have hf0 : f = (0, 0) := by
                    rcases HT.out.hit with h | ⟨i, hi, _⟩
                    · exact h
                    · omega
                  subst hf0
                  go_wp2_with fail
                  go_ret
                  exact ⟨rfl, hbl.trans (hK5.below _)⟩
                · have hkz : ((q : Int) == 0) = false := by simp; omega
                  have HF : Hid (among (poss P I) f q = true) := by
                    obtain ⟨i, hi, he⟩ := HT.out.found (by omega) HP.out
                    exact Resume.among_of he hi
                  clear hq0
                  go_wp2_with fail
                  go_loopw [19, 20] (fun s i wr => ∃ r : Nat, r ≤ q ∧ i = .int .i64 r ∧ s = .bool (among (poss P I) f r) ∧ Same w3 wr) (fun _ i _ => q - (intOf i).toNat)
                  case atStart => exact ⟨0, Nat.zero_le _, rfl, rfl, hK5⟩
                  case round =>
                    obtain ⟨r, hr, rfl, rfl, hK3⟩ := hrel
                    by_cases hql : r < q
                    · have e2 := (hK3.cell _).trans (c2 r hql)
                      have e3 := (hK3.cell _).trans (c3 r hql)
                      have hnb : befB f (P r, I r) = false := (Resume.befB_false _ _).2 (HT.out.le r hql)
                      have hbh : ∀ W, Calls Trym.prog 15 #[.int .u64 f.1, .int .u64 f.2, .int .u64 (P r), .int .u64 (I r)] W fun e w' => e = .returned (.bool (befB f (P r, I r))) ∧ w' = W := fun W => (behind15 f (P r, I r) W).mono fun e w' ⟨h1, h2⟩ => ⟨h1, h2.symm⟩
                      rw [hnb] at hbh
                      have hql' : (r : Int) < (q : Int) := by omega
                      clear hnb
                      by_cases ht1 : P r = f.1
                      · by_cases ht2 : I r = f.2
                        · have b1 : (P r == f.1) = true := by simp [ht1]
                          have b2 : (I r == f.2) = true := by simp [ht2]
                          have HK : Hid (among (poss P I) f (r + 1) = true) := by
                            have : poss P I r = f := Prod.ext ht1 ht2
                            show _ = _; simp [among, this]
                          clear ht1 ht2
                          go_wp2_with fail
                          go_quiet ((go_at_call 15; exact Calls.quiet_of_same (hbh _)))
                          go_wp2_with fail
                          go_roundw
                          case rel => exact ⟨r + 1, by omega, by go_num, by rw [HK.out], hK3.drewN _⟩
                          case measure => simp [intOf]; omega
                        · have b1 : (P r == f.1) = true := by simp [ht1]
                          have b2 : (I r == f.2) = false := by simp [ht2]
                          have HK : Hid (among (poss P I) f (r + 1) = among (poss P I) f r) := by
                            have : ¬ poss P I r = f := fun h => ht2 (by rw [← h]; rfl)
                            show _ = _; simp [among, this]
                          clear ht1 ht2
                          go_wp2_with fail
                          go_quiet ((go_at_call 15; exact Calls.quiet_of_same (hbh _)))
                          go_wp2_with fail
                          go_roundw
                          case rel => exact ⟨r + 1, by omega, by go_num, by rw [HK.out], hK3.drewN _⟩
                          case measure => simp [intOf]; omega
                      · have b1 : (P r == f.1) = false := by simp [ht1]
                        have HK : Hid (among (poss P I) f (r + 1) = among (poss P I) f r) := by
                          have : ¬ poss P I r = f := fun h => ht1 (by rw [← h]; rfl)
                          show _ = _; simp [among, this]
                        clear ht1
                        go_wp2_with fail
                        go_quiet ((go_at_call 15; exact Calls.quiet_of_same (hbh _)))
                        go_wp2_with fail
                        go_roundw
                        case rel => exact ⟨r + 1, by omega, by go_num, by rw [HK.out], hK3.drewN _⟩
                        case measure => simp [intOf]; omega
                    · obtain rfl : r = q := by omega
                      rw [HF.out]
                      go_wp2_with fail
                      go_ret
                      exact ⟨rfl, hbl.trans (hK3.below _)⟩
end Go.Proofs.Qxb6604021aMods.Reps
