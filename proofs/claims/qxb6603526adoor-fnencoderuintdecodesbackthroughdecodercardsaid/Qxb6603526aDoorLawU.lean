/-
  THE WALK of seat b6603526aD's first law: FnEncoderUintDecodesBackThroughDecoder (function 3).
-/
import Derived.Test.Qxb6603526aDoorPlain
import Derived.Test.Qxb6603526aDoorSame
import Derived.Test.Qxb6603526aDoorEnc
import Derived.Test.Qxb6603526aDoorDec
namespace Go.Proofs.Qxb6603526aDoor
open Go.RowKit

/-- Too long a tail: the law asks nothing. -/
theorem lawU_long (v : Int) (a : Option Addr) (n c : Nat) (w : World) (hn : 1048576 < n) (hm : n ≤ 9223372036854775807) :
    Calls Tryd.prog 3 #[.int .i64 v, .slice a n c] w fun e w' => e = .returned (.bool true) ∧ Below w.heap.size w w' := by
  go_enter Tryd.func3, Tryd.ntmps3
  go_wp2
  go_ret
  exact ⟨rfl, Below.refl _ _⟩

set_option maxHeartbeats 1000000 in
theorem lawU_short (v : Int) (x : Nat) (a : Option Addr) (n c : Nat) (l : List UInt8) (T : TypeId) (u : Value) (w : World) (hn : n ≤ 1048576) (hl : l.length = n) (hnil : a = none → n = 0 ∧ c = 0)
    (hb : ∀ x, a = some x → 0 < n → x.spot = none ∧ x.block < w.heap.size) (hc : ∀ x, a = some x → ∀ i (h : i < l.length), w.cell? ⟨x.block, x.off + i, none⟩ = some (.int .u8 (l[i]).toNat))
    (hg : w.cell? ⟨0, 0, none⟩ = some (.iface T u)) (h0 : 0 < w.heap.size)
    (hx : x < 18446744073709551616) (hv : IntKind.u64.wrap v = (x : Int)) (hv1 : 0 ≤ v → v = (x : Int) ∧ (x : Int) ≤ 9223372036854775807) (hv2 : v < 0 → 9223372036854775807 < (x : Int)) :
    Calls Tryd.prog 3 #[.int .i64 v, .slice a n c] w fun e w' => e = .returned (.bool true) ∧ Below w.heap.size w w' := by
  obtain ⟨i0, hi, hz0, hz1, hz2⟩ := info_parts Tryd.info5
  have HL : Hid (l.length = n) := hl
  have HV : Hid (IntKind.u64.wrap v = (x : Int)) := hv
  have HV1 : Hid (0 ≤ v → v = (x : Int) ∧ (x : Int) ≤ 9223372036854775807) := hv1
  have HV2 : Hid (v < 0 → 9223372036854775807 < (x : Int)) := hv2
  clear hv1 hv2
  have HG : Hid (w.cell? ⟨0, 0, none⟩ = some (.iface T u)) := hg
  have hC := clone_any a l n c w hn hl hnil hb hc
  have HC : Hid (Calls Tryd.prog 7 #[.slice a n c] w fun e w' => ∃ ao c', e = .returned (.slice ao n c') ∧ Rd w' ao c' l ∧ Below w.heap.size w w') := hC
  have hd : decide ((1048576 : Int) < (n : Int)) = false := by simp; omega
  clear hl hb hc hnil hg hC hv
  go_enter Tryd.func3, Tryd.ntmps3
  go_wp2_with (go_at_call 6; go_in)
  refine HC.out.mono ?_
  rintro e w1 ⟨at', ct, rfl, hrt, hb1⟩
  have HT1 : Hid (Rd w1 at' ct l) := hrt
  have HB1 : Hid (Below w.heap.size w w1) := hb1
  clear hrt hb1 HC
  go_wp2_with fail
  refine (enc_any v x hx HV.out _).mono ?_
  rintro e w2 ⟨ae, ce, rfl, hre, hb2⟩
  have hpos := Lib.uvarint_pos x
  have hle := Lib.uvarint_length64 hx
  have hw := Plain.want_uvarint (x + 1) x 64 (by omega) (by simpa using hx)
  have HE2 : Hid (Rd w2 ae ce (Lib.uvarint x)) := hre
  have HT2 : Hid (Rd w2 at' ct l) := HT1.out.below hb2 (Nat.le_refl _)
  have HB2 : Hid (Below w.heap.size w w2) := HB1.out.trans (hb2.mono HB1.out.size)
  have HW : Hid (Plain.want (Plain.bl 64 x) = (Lib.uvarint x).length) := hw
  clear hre hb2 HT1 HB1 hw
  have hv : IntKind.u64.wrap v = (x : Int) := HV.out
  generalize hU : Lib.uvarint x = L at *
  have HU : Hid (Lib.uvarint x = L) := hU
  clear hU
  go_wp2
  clear hv
  go_loop [7, 8] (fun vb vt => ∃ b t f : Nat, vb = .int .i64 b ∧ vt = .int .u64 t ∧ b + f = 64 ∧ t < 2 ^ f ∧ Hid (b + Plain.bl f t = Plain.bl 64 x)) (fun _ vt => (intOf vt).toNat)
  case atStart => exact ⟨0, x, 64, rfl, rfl, rfl, by simpa using hx, by unfold Hid; omega⟩
  case round =>
    obtain ⟨b, t, f, rfl, rfl, hbf, htf, hbl⟩ := hrel
    by_cases ht : t = 0
    · subst ht
      have hb : b = Plain.bl 64 x := by have := hbl.out; rw [Plain.bl_zero] at this; omega
      have hwb : Hid (Plain.want b = L.length) := by rw [hb]; exact HW.out
      clear hbl htf hb HW
      have hb64 : b ≤ 64 := by omega
      clear hbf
      have ht : (b = 0 ∧ ((L.length : Int) != 1) = false) ∨ ((((b : Int) + 6) / 7 == 0) = false ∧ ((L.length : Int) != ((b : Int) + 6) / 7) = false) := by
        have h := hwb.out
        unfold Plain.want at h
        split at h
        · exact .inl ⟨by omega, by rw [bne_eq_false_iff_eq]; omega⟩
        · exact .inr ⟨by rw [beq_eq_false_iff_ne]; omega, by rw [bne_eq_false_iff_eq]; omega⟩
      clear hwb
      rcases ht with ⟨rfl, ht⟩ | ⟨ht1, ht2⟩
      all_goals
        go_wp2_with (at_make; refine wpList_make_full _ rfl _ _ 22 rfl w2.heap.size 5 i0 (.int .u8 0) 1 Tryd.underlying22 hi hz0 hz1 .i64 .i64 _ _ (L.length + n) rfl rfl (by omega) (by omega) (by rw [hz2]; omega) (by unfold maxLen; omega) (Nat.le_refl _) ?_)
        intro w3 hown hgrow
        have hown1 := made_fill hown
        have hbel : Below w2.heap.size w2 w3 := (Below.refl _ _).grown hgrow (Nat.le_refl _) (fun k hk => by simp at hk)
        clear hown hgrow
        go_wp2
        go_loopw [11] (fun i wr => ∃ k : Nat, k ≤ L.length ∧ i = .int .i64 k ∧ wr.ownsRow w2.heap.size 5 1 (.slice (some ⟨w2.heap.size, 0, none⟩) (L.length + n) (L.length + n)) (L.length + n) (fill (L.take k) (L.length + n)) ∧ Below w2.heap.size w2 wr) (fun i _ => L.length - (intOf i).toNat)
        case atStart => exact ⟨0, Nat.zero_le _, rfl, hown1, hbel⟩
        case round =>
          obtain ⟨k, hk, rfl, hown2, hb2⟩ := hrel
          clear hown1 hbel
          by_cases hlt : k < L.length
          · obtain ⟨ge, oe, rfl⟩ := HE2.out.addr (by omega)
            have c1 : wr.cell? ⟨ge, oe + k, none⟩ = some (.int .u8 (L[k]).toNat) := (hb2.cell (by exact HE2.out.lt)).trans (HE2.out.cell _ rfl k hlt)
            obtain ⟨c2, ⟨u, c3⟩, R1, hb3⟩ := copy_step0 hown2 hb2 hlt (by omega)
            clear hown2 hb2
            go_wp2
            go_roundw
            case rel => exact ⟨k + 1, by omega, by go_num, R1, hb3⟩
            case measure => simp [intOf]; omega
          · obtain rfl : k = L.length := by omega
            rw [List.take_length] at hown2
            clear hlt hk
            go_wp2
            go_loopw [12] (fun i wr2 => ∃ k : Nat, k ≤ n ∧ i = .int .i64 k ∧ wr2.ownsRow w2.heap.size 5 1 (.slice (some ⟨w2.heap.size, 0, none⟩) (L.length + n) (L.length + n)) (L.length + n) (fill (L ++ l.take k) (L.length + n)) ∧ Below w2.heap.size w2 wr2) (fun i _ => n - (intOf i).toNat)
            case atStart => exact ⟨0, Nat.zero_le _, rfl, by simpa using hown2, hb2⟩
            case round =>
              obtain ⟨k, hk, rfl, hown3, hb3⟩ := hrel
              clear hown2 hb2
              by_cases hlt : k < n
              · have hkl : k < l.length := by rw [HL.out]; exact hlt
                obtain ⟨gt, ot, rfl⟩ := HT2.out.addr (by omega)
                have c1 := (hb3.cell (p := ⟨gt, ot + k, none⟩) (by exact HT2.out.lt)).trans (HT2.out.cell _ rfl k hkl)
                obtain ⟨c2, ⟨u, c3⟩, R1, hb4⟩ := copy_step hown3 hb3 hkl (by rw [HL.out]; omega)
                clear hown3 hb3
                go_wp2
                go_roundw
                case rel => exact ⟨k + 1, by omega, by go_num, R1, hb4⟩
                case measure => simp [intOf]; omega
              · obtain rfl : k = n := by omega
                rw [List.take_of_length_le (by rw [HL.out]; omega), show L.length + k = (L ++ l).length by rw [List.length_append, HL.out], fill_full] at hown3
                have hrb := Rd.ofOwn hown3
                rw [show (L ++ l).length = L.length + k by rw [List.length_append, HL.out]] at hrb
                clear hown3
                have hdec : Lib.uvarintDec (L ++ l) = (x, (L.length : Int)) := by
                  have := Plain.dec_uvarint x l hx
                  rw [HU.out] at this; exact this
                have hbw : Below w.heap.size w wr := HB2.out.trans (hb3.mono HB2.out.size)
                have hrt : Rd wr at' ct l := HT2.out.below hb3 (Nat.le_refl _)
                have hgw : wr.cell? ⟨0, 0, none⟩ = some (.iface T u) := (hbw.cell (p := ⟨0, 0, none⟩) h0).trans HG.out
                have h0w : 0 < wr.heap.size := Nat.lt_of_lt_of_le h0 hbw.size
                have hlen : (L ++ l).length = L.length + k := by rw [List.length_append, HL.out]
                have D1 : ∀ hp : (x : Int) ≤ 9223372036854775807, _ := fun hp => decU_ok w2.heap.size 0 (L.length + k) (L.length + k) (L ++ l) wr hlen (by omega) hrb x L.length hp (by omega) (by omega) hdec
                have D2 : ∀ hp : 9223372036854775807 < (x : Int), _ := fun hp => decU_bad w2.heap.size 0 (L.length + k) (L.length + k) (L ++ l) T u wr hlen hrb hgw h0w x L.length (.inr ⟨by omega, hp⟩) hdec
                rw [Nat.add_sub_cancel_left, List.drop_left] at D1
                have HD1 := hide D1
                have HD2 := hide D2
                have HRT : Hid (Rd wr at' ct l) := hrt
                have HBW : Hid (Below w.heap.size w wr) := hbw
                clear D1 D2 hdec hrb hbw hrt hgw h0w hlen hb3 HT2 HB2 HG
                go_wp2_with fail
                by_cases hv0 : 0 ≤ v
                · obtain ⟨hvx, hxm⟩ := HV1.out hv0
                  refine (unhide HD1 hxm).mono ?_
                  rintro e w4 ⟨ao, c', rfl, hr4, hb4⟩
                  have hrt4 := HRT.out.below hb4 (Nat.le_refl _)
                  have HB4 : Hid (Below w.heap.size w w4) := HBW.out.trans (hb4.mono HBW.out.size)
                  have S := same_any ao at' c' ct k l w4 (by omega) HL.out hr4 hrt4
                  have HS := hide S
                  clear S hr4 hrt4 hb4
                  subst hvx
                  go_wp2_with (go_at_call 10; refine (unhide HS).mono ?_; rintro e w5 ⟨rfl, q, rfl⟩)
                  go_ret
                  exact ⟨rfl, below_drewN HB4.out q⟩
                · refine (unhide HD2 (HV2.out (by omega))).mono ?_
                  rintro e w4 ⟨rfl, hb4⟩
                  have HB4 : Hid (Below w.heap.size w w4) := HBW.out.trans (hb4.mono HBW.out.size)
                  clear hb4
                  have hq := q22
                  have hv3 : decide (0 ≤ v) = false := by simpa using hv0
                  go_wp2
                  go_ret
                  exact ⟨rfl, HB4.out⟩
    · obtain ⟨f', rfl⟩ : ∃ f', f = f' + 1 := by
        cases f with
        | zero => simp at htf; omega
        | succ f => exact ⟨f, rfl⟩
      have hbl2 : Hid (b + 1 + Plain.bl f' (t / 2) = Plain.bl 64 x) := by
        have := hbl.out; rw [Plain.bl_step f' t ht] at this; unfold Hid; omega
      have ht2 : t / 2 < 2 ^ f' := by rw [Nat.pow_succ] at htf; omega
      have htn : ((t : Int) != 0) = true := by rw [bne_iff_ne]; omega
      have HT : Hid (t / 2 < 2 ^ f') := ht2
      clear hbl htf ht2
      go_wp2
      go_roundw
      case rel => exact ⟨b + 1, t / 2, f', by go_num, by go_num, by omega, HT.out, hbl2⟩
      case measure => simp [intOf]; omega

end Go.Proofs.Qxb6603526aDoor
