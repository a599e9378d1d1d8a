/-
  THE WALK of seat b6603805a: ZZMeet (function 9).
-/
import Derived.Test.Qxb6603805aMeet
namespace Go.Proofs.Qxb6603805a
open Go.RowKit

theorem q38 : ∀ (w : World) (a : Option Addr) (n c n' c' : Nat), (binOp .eql 38 (.slice a n c) (.slice none n' c')).run Try.prog w = .ok (.bool a.isNone) w :=
  fun w a n c n' c' => Lib.run_eql_slice_nil w _ _ a n c n' c' Try.underlying38

theorem own_same {w w' : World} {B g N c : Nat} {xs : List Value} (h : w.ownsRow B 21 1 (.slice (some ⟨g, 0, none⟩) N c) N xs) (he : w'.heap[g]? = w.heap[g]?) : w'.ownsRow B 21 1 (.slice (some ⟨g, 0, none⟩) N c) N xs := by
  refine ⟨h.1, ?_⟩
  rcases h.2 with ⟨h', _⟩ | ⟨g', cap', cur, h', hb, hg, r⟩
  · simp at h'
  · simp only [Value.slice.injEq, Option.some.injEq, Addr.mk.injEq, and_true, true_and] at h'
    obtain ⟨rfl, rfl⟩ := h'
    exact .inr ⟨g, c, cur, rfl, hb, he.trans hg, r⟩

theorem own_lt {w : World} {B g N c : Nat} {xs : List Value} (h : w.ownsRow B 21 1 (.slice (some ⟨g, 0, none⟩) N c) N xs) : g < w.heap.size := by
  rcases h.2 with ⟨h', _⟩ | ⟨g', cap', cur, h', hb, hg, r⟩
  · simp at h'
  · simp only [Value.slice.injEq, Option.some.injEq, Addr.mk.injEq, and_true, true_and] at h'
    obtain ⟨rfl, rfl⟩ := h'
    exact lt_of_heap hg

theorem Rd.ofOwn {w : World} {B n g c : Nat} {l : List Int} (h : w.ownsRow B 21 1 (.slice (some ⟨g, 0, none⟩) n c) n (cells l)) : Rd w (some ⟨g, 0, none⟩) l := by
  obtain ⟨ao, c', hv, hn, hr⟩ := Rd.own h
  simp only [Value.slice.injEq] at hv
  obtain ⟨rfl, _, _⟩ := hv
  exact hr

/-- Two columns of K numbers are being filled. -/
structure Two (w wr : World) (g1 g2 K k : Nat) (F S : List Int) : Prop where
  one : wr.ownsRow w.heap.size 21 1 (.slice (some ⟨g1, 0, none⟩) K K) K (fill (F.take k) K)
  two : wr.ownsRow w.heap.size 21 1 (.slice (some ⟨g2, 0, none⟩) K K) K (fill (S.take k) K)
  bel : Below w.heap.size w wr
  ne : g1 ≠ g2
  le1 : w.heap.size ≤ g1
  le2 : w.heap.size ≤ g2

theorem Two.step {w wr : World} {g1 g2 K k : Nat} {F S : List Int} (h : Two w wr g1 g2 K k F S) (hF : F.length = K) (hS : S.length = K) (hk : k < K) :
    Two w ((wr.setCell ⟨g1, k, none⟩ (.int .i32 (F[k]'(by omega)))).setCell ⟨g2, k, none⟩ (.int .i32 (S[k]'(by omega)))) g1 g2 K (k + 1) F S := by
  obtain ⟨_, _, a1, b1⟩ := copy_step h.one h.bel h.le1 (show k < F.length by omega) (by omega)
  have t1 := own_same h.two (w' := wr.setCell ⟨g1, k, none⟩ (.int .i32 (F[k]'(by omega)))) (Below.heap_setCell _ _ _ _ (by exact fun e => h.ne e.symm))
  obtain ⟨_, _, a2, b2⟩ := copy_step t1 b1 h.le2 (show k < S.length by omega) (by omega)
  exact ⟨own_same a1 (Below.heap_setCell _ _ _ _ (by exact h.ne)), a2, b2, h.ne, h.le1, h.le2⟩

set_option maxHeartbeats 2000000 in
set_option maxRecDepth 100000 in
theorem zz_any (a0 a1 a2 a3 : Option Addr) (cw cc dw dc : List Int) (n m k0 k1 k2 k3 : Nat) (w : World) (hn : n ≤ 65536) (hm : m ≤ 65536) (l0 : cw.length = n) (l1 : cc.length = n) (l2 : dw.length = m) (l3 : dc.length = m)
    (r0 : Rd w a0 cw) (r1 : Rd w a1 cc) (r2 : Rd w a2 dw) (r3 : Rd w a3 dc) (hC : Plain.Rise cw) (hD : Plain.Rise dw) :
    Calls Try.prog 9 #[.slice a0 n k0, .slice a1 n k1, .slice a2 m k2, .slice a3 m k3] w fun e w' => ∃ ar cr as' cs,
      e = .returned (.tuple #[.slice ar (Plain.meet (Plain.clock cw cc) (Plain.clock dw dc)).length cr, .slice as' (Plain.meet (Plain.clock cw cc) (Plain.clock dw dc)).length cs]) ∧
      Rd w' ar ((Plain.meet (Plain.clock cw cc) (Plain.clock dw dc)).map (·.1)) ∧ Rd w' as' ((Plain.meet (Plain.clock cw cc) (Plain.clock dw dc)).map (·.2)) ∧ Below w.heap.size w w' := by
  obtain ⟨i0, hi0, hz0, hz1, hz2⟩ := info_parts info21
  have hq := q38
  have HCL := hide (clock_any a0 a1 cw cc n k0 k1 w hn l0 l1 r0 r1)
  have HL2 := hide l2
  have HL3 := hide l3
  have HR2 := hide r2
  have HR3 := hide r3
  have HC := hide (Plain.riseC_of (c := cc) (by omega) hC)
  have HD := hide (Plain.riseC_of (c := dc) (by omega) hD)
  have HLC := hide ((Plain.clock_length cw cc (by omega)).trans l0)
  have HLD := hide ((Plain.clock_length dw dc (by omega)).trans l2)
  have hml : (Plain.meet (Plain.clock cw cc) (Plain.clock dw dc)).length ≤ n := by
    have := Plain.meet_length_le (C := Plain.clock cw cc) (D := Plain.clock dw dc) (i := n)
    rwa [List.take_of_length_le (by rw [HLC.out]; exact Nat.le_refl _)] at this
  generalize hR : Plain.meet (Plain.clock cw cc) (Plain.clock dw dc) = R at hml ⊢
  have HRR := hide hR
  clear l0 l1 l2 l3 r0 r1 r2 r3 hC hD hR
  go_enter Try.func9, Try.ntmps9
  go_wp2_with fail
  refine HCL.out.mono ?_
  rintro e w1 ⟨ac, kc, rfl, hrt1, hb1⟩
  have HC2 := hide (clock_any a2 a3 dw dc m k2 k3 w1 hm HL2.out HL3.out (HR2.out.below hb1 (Nat.le_refl _)) (HR3.out.below hb1 (Nat.le_refl _)))
  have HT1 := hide hrt1
  have HB1 := hide hb1
  clear hrt1 hb1 HCL HR2 HR3
  go_wp2_with fail
  refine HC2.out.mono ?_
  rintro e w2 ⟨ad, kd, rfl, hrt2, hb2⟩
  have hM := (meet_any ac ad (Plain.clock cw cc) (Plain.clock dw dc) n m kc kd w2 hn hm HLC.out HLD.out (HT1.out.below hb2 (Nat.le_refl _)) hrt2 HC.out HD.out)
  have HB2 := hide (HB1.out.trans (hb2.mono HB1.out.size))
  rw [HRR.out] at hM
  have HM := hide hM
  clear hrt2 hb2 HC2 HT1 HB1 hM HRR
  go_wp2_with fail
  refine HM.out.mono ?_
  rintro e w3 ⟨ao, ko, rfl, hrt3, hb3⟩
  have HT3 := hide hrt3
  have HB3 := hide (HB2.out.trans (hb3.mono HB2.out.size))
  clear hrt3 hb3 HM HB2
  match ao, HT3 with
  | none, HT3 =>
    have hR := HT3.out.nil rfl
    subst hR
    go_wp2
    go_ret2
    exact ⟨none, 0, none, 0, rfl, Rd.mkNil _, Rd.mkNil _, HB3.out⟩
  | some x, HT3 =>
    go_wp2_with (at_make; refine wpList_make_full _ rfl _ _ 22 rfl w3.heap.size 21 i0 (.int .i32 0) 1 Try.underlying22 hi0 hz0 hz1 .i64 .i64 _ _ R.length rfl rfl (by rfl) (by rfl) (by rw [hz2]; omega) (by unfold maxLen; omega) (Nat.le_refl _) ?_)
    intro w4 hown hgrow
    have o1 := made_fill hown
    have HO1 := hide o1
    have hb4 : Below w3.heap.size w3 w4 := (Below.refl _ _).grown hgrow (Nat.le_refl _) (fun k hk => by simp at hk)
    have HB4 := hide hb4
    have hlt4 : w3.heap.size < w4.heap.size := own_lt o1
    clear hown hgrow o1 hb4
    go_wp2_with (at_make; refine wpList_make_full _ rfl _ _ 22 rfl w3.heap.size 21 i0 (.int .i32 0) 1 Try.underlying22 hi0 hz0 hz1 .i64 .i64 _ _ R.length rfl rfl (by rfl) (by rfl) (by rw [hz2]; omega) (by unfold maxLen; omega) (by omega) ?_)
    intro w5 hown hgrow
    have hb5 : Below w4.heap.size w4 w5 := (Below.refl _ _).grown hgrow (Nat.le_refl _) (fun k hk => by simp at hk)
    have HTW : Hid (Two w3 w5 w3.heap.size w4.heap.size R.length 0 (R.map (·.1)) (R.map (·.2))) :=
      ⟨by simpa using own_same HO1.out (hb5.block _ hlt4), by simpa using made_fill hown, HB4.out.trans (hb5.mono (by omega)), by omega, Nat.le_refl _, by omega⟩
    clear hown hgrow hb5 HO1 HB4
    go_wp2
    go_loopw [13] (fun vi wr => ∃ k : Nat, k ≤ R.length ∧ vi = .int .i64 k ∧ Hid (Two w3 wr w3.heap.size w4.heap.size R.length k (R.map (·.1)) (R.map (·.2)))) (fun vi _ => R.length - (intOf vi).toNat)
    case atStart => exact ⟨0, Nat.zero_le _, rfl, HTW⟩
    case round =>
      obtain ⟨k, hk, rfl, htw⟩ := hrel
      clear HTW
      by_cases hlt : k < R.length
      · obtain ⟨g, he, hgl⟩ := HT3.out.addr (by omega)
        obtain rfl := Option.some.inj he
        have c1 : wr.cell? ⟨g, k * 2, none⟩ = some (.int .i32 R[k].1) := (htw.out.bel.cell (by exact hgl)).trans (HT3.out.fst _ rfl k hlt)
        have c2 : wr.cell? ⟨g, k * 2 + 1, none⟩ = some (.int .i32 R[k].2) := (htw.out.bel.cell (by exact hgl)).trans (HT3.out.snd _ rfl k hlt)
        have f1 := htw.out.one.frozenAt k
        have f2 := htw.out.two.frozenAt k
        obtain ⟨u1, g1⟩ := own_cell htw.out.one k hlt
        obtain ⟨u2, g2⟩ := own_cell htw.out.two k hlt
        have hst := htw.out.step (by simp) (by simp) hlt
        simp only [List.getElem_map] at hst
        have HST := hide hst
        have hne1 : ¬ g = w3.heap.size := by omega
        have hne2 : ¬ w3.heap.size = w4.heap.size := by omega
        clear hst htw he
        go_wp2
        go_roundw
        case rel => exact ⟨k + 1, by omega, by go_num, HST⟩
        case measure => simp [intOf]; omega
      · have e : k = R.length := by omega
        have h1 := htw.out.one
        have h2 := htw.out.two
        have ef : fill ((R.map (·.1)).take k) R.length = cells (R.map (·.1)) := by
          rw [List.take_of_length_le (by simp; omega)]
          have := fill_full (R.map (·.1)); simpa using this
        have es : fill ((R.map (·.2)).take k) R.length = cells (R.map (·.2)) := by
          rw [List.take_of_length_le (by simp; omega)]
          have := fill_full (R.map (·.2)); simpa using this
        rw [ef] at h1
        rw [es] at h2
        have H1 := hide (Rd.ofOwn h1)
        have H2 := hide (Rd.ofOwn h2)
        have HBE := hide (HB3.out.trans (htw.out.bel.mono HB3.out.size))
        clear htw h1 h2 ef es e
        go_wp2
        go_ret2
        exact ⟨_, _, _, _, rfl, H1.out, H2.out, HBE.out⟩

end Go.Proofs.Qxb6603805a
