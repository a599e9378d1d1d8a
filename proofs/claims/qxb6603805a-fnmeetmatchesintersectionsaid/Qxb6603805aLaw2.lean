/-
  THE WALK of seat b6603805a's law, its main road: FnMeetMatchesIntersection (function 3).
-/
import Derived.Test.Qxb6603805aZZ
namespace Go.Proofs.Qxb6603805a
open Go.RowKit

theorem Rd.drewN {w : World} {ao : Option Addr} {l : List Int} (h : Rd w ao l) (q : Nat) : Rd (w.drewN q) ao l := ⟨h.nil, h.spot, h.cell⟩

set_option maxHeartbeats 1000000 in
set_option maxRecDepth 100000 in
/-- A writer column that does not rise: the law asks nothing. -/
theorem law_unrising (a0 a1 a2 a3 : Option Addr) (cw dw : List Int) (n m k0 k1 k2 k3 : Nat) (w : World) (hn : n ≤ 65536) (hm : m ≤ 65536) (l0 : cw.length = n) (l2 : dw.length = m)
    (r0 : Rd w a0 cw) (r2 : Rd w a2 dw) (h : ¬ Plain.Rise cw ∨ Plain.Rise cw ∧ ¬ Plain.Rise dw) :
    Calls Try.prog 3 #[.slice a0 n k0, .slice a1 n k1, .slice a2 m k2, .slice a3 m k3] w fun e w' => e = .returned (.bool true) ∧ Below w.heap.size w w' := by
  rcases h with h | ⟨h, h'⟩
  · have H := hide (rise_no a0 cw n k0 w hn l0 r0 h)
    clear r0 r2 h l0 l2
    go_enter Try.func3, Try.ntmps3
    go_wp2_with (go_at_call 6; go_in)
    refine H.out.mono ?_
    rintro e w1 ⟨rfl, q, rfl⟩
    go_wp2
    go_ret
    exact ⟨rfl, below_drewN (Below.refl _ _) q⟩
  · have H := hide (rise_yes a0 cw n k0 w hn l0 r0 h)
    have H2 := hide fun q => rise_no a2 dw m k2 (w.drewN q) hm l2 (r2.drewN q) h'
    clear r0 r2 h h' l0 l2
    go_enter Try.func3, Try.ntmps3
    go_wp2_with (go_at_call 6; go_in)
    refine H.out.mono ?_
    rintro e w1 ⟨rfl, q, rfl⟩
    go_wp2_with fail
    refine (H2.out q).mono ?_
    rintro e w1 ⟨rfl, q2, rfl⟩
    go_wp2
    go_ret
    exact ⟨rfl, below_drewN (Below.refl _ _) (q + q2)⟩

set_option maxHeartbeats 2000000 in
set_option maxRecDepth 100000 in
theorem law_main (a0 a1 a2 a3 : Option Addr) (cw cc dw dc : List Int) (n m k0 k1 k2 k3 : Nat) (w : World) (hn : n ≤ 65536) (hm : m ≤ 65536) (l0 : cw.length = n) (l1 : cc.length = n) (l2 : dw.length = m) (l3 : dc.length = m)
    (r0 : Rd w a0 cw) (r1 : Rd w a1 cc) (r2 : Rd w a2 dw) (r3 : Rd w a3 dc) (hC : Plain.Rise cw) (hD : Plain.Rise dw) :
    Calls Try.prog 3 #[.slice a0 n k0, .slice a1 n k1, .slice a2 m k2, .slice a3 m k3] w fun e w' => e = .returned (.bool true) ∧ Below w.heap.size w w' := by
  have H1 := hide (rise_yes a0 cw n k0 w hn l0 r0 hC)
  have H2 := hide fun q => rise_yes a2 dw m k2 (w.drewN q) hm l2 (r2.drewN q) hD
  have L0 := hide l0
  have L1 := hide l1
  have L2 := hide l2
  have L3 := hide l3
  have R0 := hide r0
  have R1 := hide r1
  have R2 := hide r2
  have R3 := hide r3
  have HC := hide hC
  have HD := hide hD
  have t0 : decide ((65536 : Int) < (n : Int)) = false := by simp; omega
  have t1 : decide ((65536 : Int) < (m : Int)) = false := by simp; omega
  clear l0 l1 l2 l3 r0 r1 r2 r3 hC hD
  go_enter Try.func3, Try.ntmps3
  go_wp2_with (go_at_call 6; go_in)
  refine H1.out.mono ?_
  rintro e w1 ⟨rfl, q1, rfl⟩
  go_wp2_with fail
  refine (H2.out q1).mono ?_
  rintro e w1 ⟨rfl, q2, hw1⟩
  have hb1 : Below w.heap.size w w1 := by rw [hw1]; exact below_drewN (below_drewN (Below.refl _ _) q1) q2
  have HB1 := hide hb1
  have C0 := hide (clone_any a0 cw n k0 w1 hn L0.out (R0.out.below hb1 (Nat.le_refl _)))
  clear hw1 hb1 H1 H2
  go_wp2_with fail
  refine C0.out.mono ?_
  rintro e w2 ⟨b0, j0, rfl, s0, hb2⟩
  have HB2 := hide (HB1.out.trans (hb2.mono HB1.out.size))
  have S0 := hide s0
  clear C0 s0 hb2 HB1 R0
  have C1 := hide (clone_any a1 cc n k1 w2 hn L1.out (R1.out.below HB2.out (Nat.le_refl _)))
  go_wp2_with fail
  refine C1.out.mono ?_
  rintro e w3 ⟨b1, j1, rfl, s1, hb3⟩
  have HB3 := hide (HB2.out.trans (hb3.mono HB2.out.size))
  have S0' := hide (S0.out.below hb3 (Nat.le_refl _))
  have S1 := hide s1
  clear C1 s1 hb3 HB2 R1 S0
  have C2 := hide (clone_any a2 dw m k2 w3 hm L2.out (R2.out.below HB3.out (Nat.le_refl _)))
  go_wp2_with fail
  refine C2.out.mono ?_
  rintro e w4 ⟨b2, j2, rfl, s2, hb4⟩
  have HB4 := hide (HB3.out.trans (hb4.mono HB3.out.size))
  have S0'' := hide (S0'.out.below hb4 (Nat.le_refl _))
  have S1' := hide (S1.out.below hb4 (Nat.le_refl _))
  have S2 := hide s2
  clear C2 s2 hb4 HB3 R2 S0' S1
  have C3 := hide (clone_any a3 dc m k3 w4 hm L3.out (R3.out.below HB4.out (Nat.le_refl _)))
  go_wp2_with fail
  refine C3.out.mono ?_
  rintro e w5 ⟨b3, j3, rfl, s3, hb5⟩
  have HB5 := hide (HB4.out.trans (hb5.mono HB4.out.size))
  have T0 := hide (S0''.out.below hb5 (Nat.le_refl _))
  have T1 := hide (S1'.out.below hb5 (Nat.le_refl _))
  have T2 := hide (S2.out.below hb5 (Nat.le_refl _))
  have T3 := hide s3
  clear C3 s3 hb5 HB4 R3 S0'' S1' S2
  have Z := hide (zz_any b0 b1 b2 b3 cw cc dw dc n m j0 j1 j2 j3 w5 hn hm L0.out L1.out L2.out L3.out T0.out T1.out T2.out T3.out HC.out HD.out)
  have MC := hide fun k hk r s => Plain.meet_cols (L0.out.trans L1.out.symm) (L2.out.trans L3.out.symm) HC.out HD.out (k := k) hk (r := r) (s := s)
  have MR := hide (Plain.meet_rise (C := Plain.clock cw cc) (D := Plain.clock dw dc) (Plain.riseC_of (L0.out.trans L1.out.symm) HC.out))
  have hml : (Plain.meet (Plain.clock cw cc) (Plain.clock dw dc)).length ≤ n := by
    have := Plain.meet_length_le (C := Plain.clock cw cc) (D := Plain.clock dw dc) (i := n)
    rwa [List.take_of_length_le (by rw [Plain.clock_length cw cc (L0.out.trans L1.out.symm), L0.out]; exact Nat.le_refl _)] at this
  generalize hR : Plain.meet (Plain.clock cw cc) (Plain.clock dw dc) = R at Z MC MR hml
  have HRR := hide hR
  clear hR
  go_wp2_with fail
  refine Z.out.mono ?_
  rintro e w6 ⟨ar, cr, as', cs, rfl, s4, s5, hb6⟩
  have HB6 := hide (HB5.out.trans (hb6.mono HB5.out.size))
  have U0 := hide (T0.out.below hb6 (Nat.le_refl _))
  have U1 := hide (T1.out.below hb6 (Nat.le_refl _))
  have U2 := hide (T2.out.below hb6 (Nat.le_refl _))
  have U3 := hide (T3.out.below hb6 (Nat.le_refl _))
  have U4 := hide s4
  have U5 := hide s5
  have H7 := hide (rise_yes ar (R.map (·.1)) R.length cr w6 (by omega) (by simp) s4 MR.out)
  clear Z s4 s5 hb6 HB5 T0 T1 T2 T3 MR
  go_wp2_with fail
  refine H7.out.mono ?_
  rintro e w7 ⟨rfl, q7, hw7⟩
  have HB7 : Hid (Below w.heap.size w w7) := by rw [hw7]; exact below_drewN HB6.out _
  have V0 : Hid (Rd w7 b0 cw) := by rw [hw7]; exact U0.out.drewN _
  have V1 : Hid (Rd w7 b1 cc) := by rw [hw7]; exact U1.out.drewN _
  have V2 : Hid (Rd w7 b2 dw) := by rw [hw7]; exact U2.out.drewN _
  have V3 : Hid (Rd w7 b3 dc) := by rw [hw7]; exact U3.out.drewN _
  have V4 : Hid (Rd w7 ar (R.map (·.1))) := by rw [hw7]; exact U4.out.drewN _
  have V5 : Hid (Rd w7 as' (R.map (·.2))) := by rw [hw7]; exact U5.out.drewN _
  clear hw7 H7 HB6 U0 U1 U2 U3 U4 U5
  go_wp2
  go_loopw [11] (fun vk wr => ∃ k : Nat, k ≤ R.length ∧ vk = .int .i64 k ∧ Hid (wr = w7)) (fun vk _ => R.length - (intOf vk).toNat)
  case atStart => exact ⟨0, Nat.zero_le _, rfl, rfl⟩
  case round =>
    obtain ⟨k, hk, rfl, hwr⟩ := hrel
    have hwr' := hwr.out
    subst hwr'
    clear hwr
    by_cases hlt : k < R.length
    · have hk4 : k < (R.map (·.1)).length := by simpa using hlt
      have hk5 : k < (R.map (·.2)).length := by simpa using hlt
      obtain ⟨g4, o4, rfl, hg4⟩ := V4.out.addr (by omega)
      obtain ⟨g5, o5, rfl, hg5⟩ := V5.out.addr (by omega)
      have e4 := V4.out.cell _ rfl k hk4
      have e5 := V5.out.cell _ rfl k hk5
      simp only [List.getElem_map] at e4 e5
      have I0 := hide (index_any b0 cw n j0 R[k].1 wr hn L0.out V0.out HC.out)
      have I2 := hide (index_any b2 dw m j2 R[k].1 wr hm L2.out V2.out HD.out)
      go_wp2_with fail
      refine I0.out.mono ?_
      rintro e w8 ⟨hw8, r, rfl, hf0⟩
      subst hw8
      have F0 := hide hf0
      clear hf0 I0
      go_wp2_with fail
      refine I2.out.mono ?_
      rintro e w8 ⟨hw8, s, rfl, hf2⟩
      subst hw8
      obtain ⟨p, hp, q, hq, rfl, rfl, hmin⟩ := MC.out k hlt r s F0.out hf2
      clear hf2 I2 F0
      have hpn : p < n := by rw [← L1.out]; exact hp
      have hqm : q < m := by rw [← L3.out]; exact hq
      obtain ⟨g1, o1, rfl, hg1⟩ := V1.out.addr (by omega)
      obtain ⟨g3, o3, rfl, hg3⟩ := V3.out.addr (by omega)
      have e1 : w8.cell? ⟨g1, o1 + p, none⟩ = some (.int .i32 cc[p]) := V1.out.cell _ rfl p hp
      have e3 : w8.cell? ⟨g3, o3 + q, none⟩ = some (.int .i32 dc[q]) := V3.out.cell _ rfl q hq
      by_cases hcmp : dc[q] < cc[p]
      · have hv : (R[k].2 != dc[q]) = false := by rw [hmin, bne_eq_false_iff_eq]; omega
        clear hmin
        go_wp2
        go_roundw
        case rel => exact ⟨k + 1, by omega, by go_num, (by first | exact trivial | exact rfl)⟩
        case measure => simp [intOf]; omega
      · have hv : (R[k].2 != cc[p]) = false := by rw [hmin, bne_eq_false_iff_eq]; omega
        clear hmin
        have hcmp' : cc[p] ≤ dc[q] := by omega
        clear hcmp
        go_wp2
        go_roundw
        case rel => exact ⟨k + 1, by omega, by go_num, (by first | exact trivial | exact rfl)⟩
        case measure => simp [intOf]; omega
    · clear MC V1 V3 V4 V5
      have MK := hide fun i hi r => Plain.meet_count (cw := cw) (cc := cc) (dw := dw) (dc := dc) (L0.out.trans L1.out.symm) (L2.out.trans L3.out.symm) (i := i) hi (r := r)
      have MT : Hid ((Plain.meet ((Plain.clock cw cc).take n) (Plain.clock dw dc)).length = R.length) := by
        unfold Hid
        rw [List.take_of_length_le (by rw [Plain.clock_length cw cc (L0.out.trans L1.out.symm), L0.out]; exact Nat.le_refl _), HRR.out]
      clear HRR L1 L3
      go_wp2
      go_loopw [15, 16] (fun vc vi wr2 => ∃ i t : Nat, i ≤ n ∧ vi = .int .i64 i ∧ vc = .int .i64 t ∧ t ≤ i ∧ Hid ((Plain.meet ((Plain.clock cw cc).take i) (Plain.clock dw dc)).length = t) ∧ Hid (wr2 = wr)) (fun _ vi _ => n - (intOf vi).toNat)
      case atStart => exact ⟨0, 0, Nat.zero_le _, rfl, rfl, Nat.le_refl _, rfl, rfl⟩
      case round =>
        obtain ⟨i, t, hi, rfl, rfl, hti, ht, hwr⟩ := hrel
        have hwr' := hwr.out
        subst hwr'
        clear hwr
        by_cases hlt : i < n
        · have hi0 : i < cw.length := by rw [L0.out]; exact hlt
          obtain ⟨g0, o0, rfl, hg0⟩ := V0.out.addr (by omega)
          have e0 := V0.out.cell _ rfl i hi0
          simp only at e0
          have I2 := hide (index_any b2 dw m j2 cw[i] _ hm L2.out V2.out HD.out)
          go_wp2_with fail
          refine I2.out.mono ?_
          rintro e w8 ⟨hw8, r, rfl, hf2⟩
          subst hw8
          rcases MK.out i hi0 r hf2 with ⟨hr, hcount⟩ | ⟨hr, hcount⟩
          · have ht' : Hid ((Plain.meet ((Plain.clock cw cc).take (i + 1)) (Plain.clock dw dc)).length = t + 1) := by unfold Hid; rw [hcount, ht.out]
            clear hf2 I2 hcount ht MK MT
            go_wp2
            go_roundw
            case rel => exact ⟨i + 1, t + 1, by omega, by go_num, by go_num, by omega, ht', (by first | exact trivial | exact rfl)⟩
            case measure => simp [intOf]; omega
          · have ht' : Hid ((Plain.meet ((Plain.clock cw cc).take (i + 1)) (Plain.clock dw dc)).length = t) := by unfold Hid; rw [hcount, ht.out]
            subst hr
            clear hf2 I2 hcount ht MK MT
            go_wp2
            go_roundw
            case rel => exact ⟨i + 1, t, by omega, by go_num, rfl, by omega, ht', (by first | exact trivial | exact rfl)⟩
            case measure => simp [intOf]; omega
        · have e : i = n := by omega
          have hfin : t = R.length := by rw [← ht.out, e, MT.out]
          subst hfin
          clear e hti ht MK MT
          go_wp2
          go_ret
          exact ⟨rfl, HB7.out⟩

end Go.Proofs.Qxb6603805a
