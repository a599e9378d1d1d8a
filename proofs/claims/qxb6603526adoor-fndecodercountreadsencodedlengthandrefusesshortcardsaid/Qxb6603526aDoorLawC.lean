/-
  THE WALK of seat b6603526aD's second law: FnDecoderCountReadsEncodedLengthAndRefusesShort (function 5).
-/
import Derived.Test.Qxb6603526aDoorPlain
import Derived.Test.Qxb6603526aDoorEnc
import Derived.Test.Qxb6603526aDoorDec
import Derived.Test.Qxb6603526aDoorRowKit
namespace Go.Proofs.Qxb6603526aDoor
open Go.RowKit

/-- The bytes at the head. -/
theorem Rd.take {w : World} {g o c : Nat} {l : List UInt8} (h : Rd w (.some ⟨g, o, .none⟩) c l) (n : Nat) : Rd w (.some ⟨g, o, .none⟩) c (l.take n) :=
  ⟨fun h => by simp at h, by have := h.cap; simp; omega, h.spot, fun a ha j hj => by
    have hj' : j < l.length := by simp at hj; omega
    have := h.cell a ha j hj'
    simpa [List.getElem_take] using this⟩

/-- Draws turn nothing. -/
theorem Rd.drewN {w : World} {ao : Option Addr} {c : Nat} {l : List UInt8} (h : Rd w ao c l) (q : Nat) : Rd (w.drewN q) ao c l := ⟨h.nil, h.cap, h.spot, h.cell⟩

set_option maxHeartbeats 400000 in
set_option maxRecDepth 100000 in
/-- Too long a slice: the law asks nothing. -/
theorem lawC_long (a b : Option Addr) (n c m d : Nat) (w : World) (hn : n ≤ 9223372036854775807) (hm : m ≤ 9223372036854775807) (h : 524288 < n ∨ n ≤ 524288 ∧ 524288 < m) :
    Calls Tryd.prog 5 #[.slice a n c, .slice b m d] w fun e w' => e = .returned (.bool true) ∧ Below w.heap.size w w' := by
  rcases h with h | ⟨h, h'⟩
  all_goals
    go_enter Tryd.func5, Tryd.ntmps5
    go_wp2
    all_goals (go_ret; exact ⟨rfl, Below.refl _ _⟩)

set_option maxHeartbeats 2000000 in
set_option maxRecDepth 100000 in
theorem lawC_short (a b : Option Addr) (n c m d : Nat) (l1 l2 : List UInt8) (T : TypeId) (u : Value) (w : World) (h1 : In w a n c l1) (h2 : In w b m d l2) (hn : n ≤ 524288) (hm : m ≤ 524288)
    (hg : w.cell? ⟨0, 0, none⟩ = some (.iface T u)) (h0 : 0 < w.heap.size) :
    Calls Tryd.prog 5 #[.slice a n c, .slice b m d] w fun e w' => e = .returned (.bool true) ∧ Below w.heap.size w w' := by
  obtain ⟨i0, hi, hz0, hz1, hz2⟩ := info_parts Tryd.info5
  have HL1 : Hid (l1.length = n) := h1.len
  have HL2 : Hid (l2.length = m) := h2.len
  have HG := hide hg
  have HC1 := hide (clone_any a l1 n c w (by omega) h1.len h1.nil h1.spot h1.cell)
  have H2 := hide h2
  have d1 : decide ((1048576 : Int) < (n : Int)) = false := by simp; omega
  have d2 : decide ((1048576 : Int) < (m : Int)) = false := by simp; omega
  have d3 : decide ((1048576 : Int) < (n : Int) + (m : Int)) = false := by simp; omega
  have d4 : decide ((524288 : Int) < (n : Int)) = false := by simp; omega
  have d5 : decide ((524288 : Int) < (m : Int)) = false := by simp; omega
  clear h1 h2 hg
  go_enter Tryd.func5, Tryd.ntmps5
  go_wp2_with (go_at_call 13; go_in)
  refine HC1.out.mono ?_
  rintro e w1 ⟨ac, cs, rfl, hrs, hb1⟩
  have h2' := H2.out
  have HC2 := hide (clone_any b l2 m d w1 (by omega) h2'.len h2'.nil (fun x hx h0 => ⟨(h2'.spot x hx h0).1, Nat.lt_of_lt_of_le (h2'.spot x hx h0).2 hb1.size⟩)
    (fun x hx i hi => (hb1.cell (p := ⟨x.block, x.off + i, none⟩) ((h2'.spot x hx (by rw [← h2'.len]; omega)).2)).trans (h2'.cell x hx i hi)))
  have HS1 := hide hrs
  have HB1 := hide hb1
  clear h2' hrs hb1 H2 HC1
  go_wp2_with fail
  refine HC2.out.mono ?_
  rintro e w2 ⟨at', ct, rfl, hrt, hb2⟩
  have HS2 := hide (HS1.out.below hb2 (Nat.le_refl _))
  have HT2 := hide hrt
  have HB2 := hide (HB1.out.trans (hb2.mono HB1.out.size))
  clear hrt hb2 HS1 HB1 HC2
  go_wp2_with fail
  refine (enc_any (n : Int) n (by omega) (by simp [IntKind.wrap, IntKind.signed, IntKind.bits]; omega) _).mono ?_
  rintro e w3 ⟨ae, ce, rfl, hre, hb3⟩
  have hpos := Lib.uvarint_pos n
  have hle := Lib.uvarint_length64 (x := n) (by omega)
  have HE := hide hre
  have HS3 := hide (HS2.out.below hb3 (Nat.le_refl _))
  have HT3 := hide (HT2.out.below hb3 (Nat.le_refl _))
  have HB3 := hide (HB2.out.trans (hb3.mono HB2.out.size))
  clear hre hb3 HS2 HT2 HB2
  generalize hU : Lib.uvarint n = L at *
  have HU := hide hU
  clear hU
  have d6 : decide ((10 : Int) < (L.length : Int)) = false := by simp; omega
  go_wp2_with (at_make; refine wpList_make_full _ rfl _ _ 22 rfl w3.heap.size 5 i0 (.int .u8 0) 1 Tryd.underlying22 hi hz0 hz1 .i64 .i64 _ _ (L.length + n + m) rfl rfl (by omega) (by omega) (by rw [hz2]; omega) (by unfold maxLen; omega) (Nat.le_refl _) ?_)
  intro w4 hown hgrow
  have hown1 := made_fill hown
  have hbel : Below w3.heap.size w3 w4 := (Below.refl _ _).grown hgrow (Nat.le_refl _) (fun k hk => by simp at hk)
  clear hown hgrow
  go_wp2
  go_loopw [7] (fun i wr => ∃ k : Nat, k ≤ L.length ∧ i = .int .i64 k ∧ wr.ownsRow w3.heap.size 5 1 (.slice (some ⟨w3.heap.size, 0, none⟩) (L.length + n + m) (L.length + n + m)) (L.length + n + m) (fill (L.take k) (L.length + n + m)) ∧ Below w3.heap.size w3 wr) (fun i _ => L.length - (intOf i).toNat)
  case atStart => exact ⟨0, Nat.zero_le _, rfl, hown1, hbel⟩
  case round =>
    obtain ⟨k, hk, rfl, hown2, hb2⟩ := hrel
    clear hown1 hbel
    by_cases hlt : k < L.length
    · obtain ⟨ge, oe, rfl⟩ := HE.out.addr (by omega)
      have c1 : wr.cell? ⟨ge, oe + k, none⟩ = some (.int .u8 (L[k]).toNat) := (hb2.cell (by exact HE.out.lt)).trans (HE.out.cell _ rfl k hlt)
      obtain ⟨c2, ⟨u, c3⟩, R1, hb3⟩ := copy_step0 hown2 hb2 hlt (by omega)
      clear hown2 hb2
      go_wp2
      go_roundw
      case rel => exact ⟨k + 1, by omega, by go_num, R1, hb3⟩
      case measure => simp [intOf]; omega
    · obtain rfl : k = L.length := by omega
      rw [List.take_length] at hown2
      clear hlt hk
      go_wp2
      go_loopw [8] (fun i wr2 => ∃ k : Nat, k ≤ n ∧ i = .int .i64 k ∧ wr2.ownsRow w3.heap.size 5 1 (.slice (some ⟨w3.heap.size, 0, none⟩) (L.length + n + m) (L.length + n + m)) (L.length + n + m) (fill (L ++ l1.take k) (L.length + n + m)) ∧ Below w3.heap.size w3 wr2) (fun i _ => n - (intOf i).toNat)
      case atStart => exact ⟨0, Nat.zero_le _, rfl, by simpa using hown2, hb2⟩
      case round =>
        obtain ⟨k, hk, rfl, hown3, hb3⟩ := hrel
        clear hown2 hb2
        by_cases hlt : k < n
        · have hkl : k < l1.length := by rw [HL1.out]; exact hlt
          obtain ⟨gt, ot, rfl⟩ := HS3.out.addr (by omega)
          have c1 := (hb3.cell (p := ⟨gt, ot + k, none⟩) (by exact HS3.out.lt)).trans (HS3.out.cell _ rfl k hkl)
          obtain ⟨c2, ⟨u, c3⟩, R1, hb4⟩ := copy_step hown3 hb3 hkl (by rw [HL1.out]; omega)
          clear hown3 hb3
          go_wp2
          go_roundw
          case rel => exact ⟨k + 1, by omega, by go_num, R1, hb4⟩
          case measure => simp [intOf]; omega
        · obtain rfl : k = n := by omega
          rw [List.take_of_length_le (by rw [HL1.out]; omega)] at hown3
          clear hlt hk
          go_wp2
          go_loopw [9] (fun i wr2 => ∃ j : Nat, j ≤ m ∧ i = .int .i64 j ∧ wr2.ownsRow w3.heap.size 5 1 (.slice (some ⟨w3.heap.size, 0, none⟩) (L.length + k + m) (L.length + k + m)) (L.length + k + m) (fill (L ++ l1 ++ l2.take j) (L.length + k + m)) ∧ Below w3.heap.size w3 wr2) (fun i _ => m - (intOf i).toNat)
          case atStart => exact ⟨0, Nat.zero_le _, rfl, by simpa using hown3, hb3⟩
          case round =>
            obtain ⟨j, hj, rfl, hown4, hb4⟩ := hrel
            clear hown3 hb3
            have hpre : (L ++ l1).length = L.length + k := by rw [List.length_append, HL1.out]
            have HP := hide hpre
            clear hpre
            by_cases hlt : j < m
            · have hkl : j < l2.length := by rw [HL2.out]; exact hlt
              obtain ⟨gt, ot, rfl⟩ := HT3.out.addr (by omega)
              have c1 := (hb4.cell (p := ⟨gt, ot + j, none⟩) (by exact HT3.out.lt)).trans (HT3.out.cell _ rfl j hkl)
              have cs := copy_step hown4 hb4 hkl (by rw [HL2.out, HP.out]; omega)
              rw [HP.out] at cs
              obtain ⟨c2, ⟨u, c3⟩, R1, hb5⟩ := cs
              clear hown4 hb4
              go_wp2
              go_roundw
              case rel => exact ⟨j + 1, by omega, by go_num, R1, hb5⟩
              case measure => simp [intOf]; omega
            · obtain rfl : j = m := by omega
              have hlen : (L ++ l1 ++ l2).length = L.length + k + j := by rw [List.length_append, HP.out, HL2.out]
              rw [List.take_of_length_le (by rw [HL2.out]; omega), ← hlen, fill_full] at hown4
              have hrb := Rd.ofOwn hown4
              rw [hlen] at hrb
              clear hown4 hlt hj
              have hdec : Lib.uvarintDec (L ++ l1 ++ l2) = (k, (L.length : Int)) := by
                have := Plain.dec_uvarint k (l1 ++ l2) (by omega)
                rw [HU.out, ← List.append_assoc] at this; exact this
              have D := decC_ok w3.heap.size 0 (L.length + k + j) (L.length + k + j) (L ++ l1 ++ l2) wr hlen (by omega) hrb k L.length (by omega) (by omega) (by omega) hdec
              rw [show L.length + k + j - L.length = k + j by omega, show (L ++ l1 ++ l2).drop L.length = l1 ++ l2 by rw [List.append_assoc, List.drop_left]] at D
              have HD := hide D
              have HS := hide (HS3.out.below hb4 (Nat.le_refl _))
              have HT := hide (HT3.out.below hb4 (Nat.le_refl _))
              have HB := hide (HB3.out.trans (hb4.mono HB3.out.size))
              have HF := hide hrb
              clear D hdec hrb hb4 hlen HS3 HT3 HB3
              go_wp2_with fail
              refine HD.out.mono ?_
              rintro e w5 ⟨ao, c', rfl, hr5, hb5⟩
              have HS5 := hide (HS.out.below hb5 (Nat.le_refl _))
              have HT5 := hide (HT.out.below hb5 (Nat.le_refl _))
              have HB5 := hide (HB.out.trans (hb5.mono HB.out.size))
              have HF5 := hide (HF.out.below hb5 (Nat.le_refl _))
              have HR5 := hide hr5
              clear hr5 hb5 HS HT HB HF HD
              go_wp2
              go_loopw [13] (fun i wr2 => ∃ y q : Nat, y ≤ k ∧ i = .int .i64 y ∧ wr2 = w5.drewN q) (fun i _ => k - (intOf i).toNat)
              case atStart => exact ⟨0, 0, Nat.zero_le _, rfl, rfl⟩
              case round =>
                obtain ⟨y, q, hy, rfl, rfl⟩ := hrel
                by_cases hlt : y < k
                · have hyl : y < l1.length := by rw [HL1.out]; exact hlt
                  obtain ⟨g1, o1, rfl⟩ := HR5.out.addr (by rw [List.length_append]; omega)
                  obtain ⟨g2, o2, rfl⟩ := HS5.out.addr (by omega)
                  have e1 := HR5.out.cell _ rfl y (by rw [List.length_append]; omega)
                  rw [List.getElem_append_left hyl] at e1
                  have e2 := HS5.out.cell _ rfl y hyl
                  simp only at e1 e2
                  have hlt2 : (y : Int) < (k : Int) + (j : Int) := by omega
                  go_wp2
                  go_quiet (fail)
                  go_wp2
                  go_roundw
                  case rel => exact ⟨y + 1, _, by omega, by go_num, rfl⟩
                  case measure => simp [intOf]; omega
                · obtain rfl : y = k := by omega
                  clear hlt hy
                  go_wp2
                  go_loopw [14] (fun i wr2 => ∃ z q : Nat, z ≤ j ∧ i = .int .i64 z ∧ wr2 = w5.drewN q) (fun i _ => j - (intOf i).toNat)
                  case atStart => exact ⟨0, q, Nat.zero_le _, rfl, rfl⟩
                  case round =>
                    obtain ⟨z, q2, hz, rfl, rfl⟩ := hrel
                    by_cases hlt : z < j
                    · have hzl : z < l2.length := by rw [HL2.out]; exact hlt
                      obtain ⟨g1, o1, rfl⟩ := HR5.out.addr (by rw [List.length_append]; omega)
                      obtain ⟨g2, o2, rfl⟩ := HT5.out.addr (by omega)
                      have e1 : w5.cell? ⟨g1, o1 + (y + z), none⟩ = some (.int .u8 (l2[z]).toNat) := by
                        have h := HR5.out.cell _ rfl (y + z) (by rw [List.length_append, HL1.out]; omega)
                        rw [List.getElem_append_right (by rw [HL1.out]; omega)] at h
                        simpa [HL1.out] using h
                      have e2 := HT5.out.cell _ rfl z hzl
                      simp only at e1 e2
                      have hlt2 : (y : Int) + (z : Int) < (y : Int) + (j : Int) := by omega
                      go_wp2
                      go_quiet (fail)
                      go_wp2
                      go_roundw
                      case rel => exact ⟨z + 1, _, by omega, by go_num, rfl⟩
                      case measure => simp [intOf]; omega
                    · obtain rfl : z = j := by omega
                      clear hlt hz
                      by_cases hy0 : y = 0
                      · have hyb : ((y : Int) == 0) = true := by simp [hy0]
                        have HY := hide hy0
                        clear hy0
                        go_wp2
                        go_ret
                        exact ⟨rfl, below_drewN HB5.out _⟩
                      · have hyb : ((y : Int) == 0) = false := by rw [beq_eq_false_iff_ne]; omega
                        go_wp2_with (at_make; refine wpList_make_full _ rfl _ _ 22 rfl w5.heap.size 5 i0 (.int .u8 0) 1 Tryd.underlying22 hi hz0 hz1 .i64 .i64 _ _ (L.length + y - 1) rfl rfl (by omega) (by omega) (by rw [hz2]; omega) (by unfold maxLen; omega) (Nat.le_refl _) ?_)
                        intro w7 hown hgrow
                        have hown1 := made_fill hown
                        have hbel : Below w5.heap.size w5 w7 := (below_drewN (Below.refl _ _) q2).grown hgrow (Nat.le_refl _) (fun k hk => by simp at hk)
                        obtain ⟨S, hS⟩ : ∃ S, S = (L ++ l1 ++ l2).take (L.length + y - 1) := ⟨_, rfl⟩
                        have hSl : S.length = L.length + y - 1 := by rw [hS, List.length_take, List.length_append, HP.out]; omega
                        have hSe : S = L ++ l1.take (y - 1) := by
                          rw [hS, List.append_assoc, List.take_append, List.take_of_length_le (by omega), show L.length + y - 1 - L.length = y - 1 by omega, List.take_append_of_le_length (by rw [HL1.out]; omega)]
                        have hdec : Lib.uvarintDec S = (y, (L.length : Int)) := by
                          have := Plain.dec_uvarint y (l1.take (y - 1)) (by omega)
                          rw [HU.out] at this; rw [hSe]; exact this
                        have HSR : Hid (Rd w5 (some ⟨w3.heap.size, 0, none⟩) (L.length + y + z) S) := by rw [hS]; exact HF5.out.take _
                        have HSL := hide hSl
                        have HDE := hide hdec
                        generalize hM : L.length + y - 1 = M at *
                        have hM2 : M + 1 = L.length + y := by omega
                        have HM := hide hM
                        clear hown hgrow hS hSl hSe hdec hM HF5 HS5 HT5 HR5
                        go_wp2
                        go_loopw [16] (fun i wr2 => ∃ x : Nat, x ≤ M ∧ i = .int .i64 x ∧ wr2.ownsRow w5.heap.size 5 1 (.slice (some ⟨w5.heap.size, 0, none⟩) M M) M (fill (S.take x) M) ∧ Below w5.heap.size w5 wr2) (fun i _ => M - (intOf i).toNat)
                        case atStart => exact ⟨0, Nat.zero_le _, rfl, hown1, hbel⟩
                        case round =>
                          obtain ⟨x, hx, rfl, hown2, hb2⟩ := hrel
                          clear hown1 hbel
                          by_cases hlt : x < M
                          · have hxl : x < S.length := by rw [HSL.out]; exact hlt
                            have c1 := (hb2.cell (p := ⟨w3.heap.size, 0 + x, none⟩) (by exact HSR.out.lt)).trans (HSR.out.cell _ rfl x hxl)
                            simp only [Nat.zero_add] at c1
                            obtain ⟨c2, ⟨u, c3⟩, R1, hb3⟩ := copy_step0 hown2 hb2 hxl (by rw [HSL.out]; omega)
                            have hlt2 : (x : Int) < (L.length : Int) + (y : Int) + (z : Int) := by omega
                            clear hown2 hb2
                            go_wp2
                            go_roundw
                            case rel => exact ⟨x + 1, by omega, by go_num, R1, hb3⟩
                            case measure => simp [intOf]; omega
                          · obtain rfl : x = M := by omega
                            rw [List.take_of_length_le (by rw [HSL.out]; omega), ← HSL.out, fill_full] at hown2
                            have hrb := Rd.ofOwn hown2
                            rw [HSL.out] at hrb
                            have HBW := hide (HB5.out.trans (hb2.mono HB5.out.size))
                            have hgw := (HBW.out.cell (p := ⟨0, 0, none⟩) h0).trans HG.out
                            have D := decC_short w5.heap.size 0 x x S T u wr HSL.out (by omega) hrb hgw (Nat.lt_of_lt_of_le h0 HBW.out.size) y L.length (by omega) (by omega) (by omega) (by omega) HDE.out
                            have HD := hide D
                            clear D hrb hgw hown2 hb2 hlt hx
                            have hq := q22
                            go_wp2_with fail
                            refine HD.out.mono ?_
                            rintro e w8 ⟨rfl, hb8⟩
                            have HB8 := hide (HBW.out.trans (hb8.mono HBW.out.size))
                            clear hb8 HD
                            go_wp2
                            go_ret
                            exact ⟨rfl, HB8.out⟩

end Go.Proofs.Qxb6603526aDoor
