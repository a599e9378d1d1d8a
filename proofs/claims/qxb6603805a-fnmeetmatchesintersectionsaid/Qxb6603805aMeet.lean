/-
  THE WALK of seat b6603805a: (clock).meet (function 20).
-/
import Derived.Test.Qxb6603805aClock
import Derived.Deep.AppendLies
import Derived.StillTactics
import Derived.Laws.Pointers
namespace Go.Proofs.Qxb6603805a
open Go.RowKit

/-- What the loop keeps. -/
structure At (w wr : World) (C D : List (Int × Int)) (v : Value) (i j : Nat) : Prop where
  sep : Plain.Sep C D i j
  own : wr.ownsRow w.heap.size 42 2 v (Plain.meet (C.take i) D).length (ticks (Plain.meet (C.take i) D))
  bel : Below w.heap.size w wr

theorem At.drewN {w wr : World} {C D : List (Int × Int)} {v : Value} {i j : Nat} (h : At w wr C D v i j) (q : Nat) : At w (wr.drewN q) C D v i j := ⟨h.sep, h.own, below_drewN h.bel q⟩

section
variable {w wr w1 : World} {C D : List (Int × Int)} {v v' : Value} {i j : Nat}
theorem At.less (h : At w wr C D v i j) (hC : Plain.RiseC C) (hD : Plain.RiseC D) (hi : i < C.length) (hj : j < D.length) (hlt : C[i].1 < D[j].1) : At w wr C D v (i + 1) j :=
  ⟨h.sep.left hC, by rw [Plain.meet_snoc_none hi (Plain.miss hD h.sep hj hi hlt)]; exact h.own, h.bel⟩
theorem At.more (h : At w wr C D v i j) (hi : i < C.length) (hj : j < D.length) (hlt : D[j].1 < C[i].1) : At w wr C D v i (j + 1) := ⟨h.sep.right hj hi hlt, h.own, h.bel⟩
theorem At.same (h : At w wr C D v i j) (hC : Plain.RiseC C) (hi : i < C.length) (hj : j < D.length) (he : C[i].1 = D[j].1)
    (hown : w1.ownsRow w.heap.size 42 2 v' ((Plain.meet (C.take i) D).length + 1) (ticks (Plain.meet (C.take i) D) ++ [.int .i32 C[i].1, .int .i32 (min C[i].2 D[j].2)])) (hb : Below w.heap.size w w1) : At w w1 C D v' (i + 1) (j + 1) := by
  refine ⟨h.sep.both hC hj hi he, ?_, hb⟩
  rw [Plain.meet_snoc_some hi (Plain.hit h.sep hj hi he), List.length_append, ticks_append, ticks_cons, ticks_nil]
  exact hown
theorem At.endL (h : At w wr C D v i j) (hi : C.length ≤ i) : ∃ ao c', v = .slice ao (Plain.meet C D).length c' ∧ Rt wr ao (Plain.meet C D) := by
  have := h.own
  rw [List.take_of_length_le hi] at this
  obtain ⟨ao, c', hv, _, hr⟩ := Rt.own this
  exact ⟨ao, c', hv, hr⟩
theorem At.endR (h : At w wr C D v i j) (hC : Plain.RiseC C) (hj : j = D.length) : ∃ ao c', v = .slice ao (Plain.meet C D).length c' ∧ Rt wr ao (Plain.meet C D) := by
  have := h.own
  subst hj
  rw [Plain.done hC h.sep] at this
  obtain ⟨ao, c', hv, _, hr⟩ := Rt.own this
  exact ⟨ao, c', hv, hr⟩
end

set_option maxHeartbeats 2000000 in
set_option maxRecDepth 100000 in
theorem meet_any (ac ad : Option Addr) (C D : List (Int × Int)) (n m c1 c2 : Nat) (w : World) (hn : n ≤ 65536) (hm : m ≤ 65536) (hl : C.length = n) (hl2 : D.length = m) (hr : Rt w ac C) (hr2 : Rt w ad D) (hC : Plain.RiseC C) (hD : Plain.RiseC D) :
    Calls Try.prog 20 #[.slice ac n c1, .slice ad m c2] w fun e w' => ∃ ao c', e = .returned (.slice ao (Plain.meet C D).length c') ∧ Rt w' ao (Plain.meet C D) ∧ Below w.heap.size w w' := by
  obtain ⟨i0, hi0, hz0, hz1, hz2⟩ := info_parts info42
  have HL := hide hl
  have HL2 := hide hl2
  have HR := hide hr
  have HR2 := hide hr2
  have HC := hide hC
  have HD := hide hD
  clear hl hl2 hr hr2 hC hD
  go_enter Try.func20, Try.ntmps20
  go_wp2
  go_loopw [5, 6, 7] (fun v vi vj wr => ∃ i j : Nat, vi = .int .i64 i ∧ vj = .int .i64 j ∧ i ≤ n ∧ j ≤ m ∧ Hid (At w wr C D v i j)) (fun _ vi vj _ => (n - (intOf vi).toNat) + (m - (intOf vj).toNat))
  case atStart => exact ⟨0, 0, rfl, rfl, Nat.zero_le _, Nat.zero_le _, ⟨Plain.Sep.start, World.ownsRow_nil _ _ _ _, Below.refl _ _⟩⟩
  case round =>
    obtain ⟨i, j, rfl, rfl, hi, hj, hat⟩ := hrel
    by_cases hin : i < n
    · by_cases hjm : j < m
      · have hiC : i < C.length := by rw [HL.out]; exact hin
        have hjD : j < D.length := by rw [HL2.out]; exact hjm
        obtain ⟨gc, rfl, hgc⟩ := HR.out.addr (by omega)
        obtain ⟨gd, rfl, hgd⟩ := HR2.out.addr (by omega)
        have b1 : (0 : Int) ≤ (i : Int) := by omega
        have b2 : (i : Int) < (n : Int) := by omega
        have b3 : (0 : Int) ≤ (j : Int) := by omega
        have b4 : (j : Int) < (m : Int) := by omega
        have c1 : wr.cell? ⟨gc, i * 2, none⟩ = some (.int .i32 C[i].1) := (hat.out.bel.cell (by exact hgc)).trans (HR.out.fst _ rfl i hiC)
        have d1 : wr.cell? ⟨gd, j * 2, none⟩ = some (.int .i32 D[j].1) := (hat.out.bel.cell (by exact hgd)).trans (HR2.out.fst _ rfl j hjD)
        by_cases h1 : C[i].1 < D[j].1
        · go_wp2
          go_quiet (fail)
          go_wp2
          go_roundw
          case rel => exact ⟨i + 1, j, by go_num, rfl, by omega, hj, (hat.out.less HC.out HD.out hiC hjD h1).drewN _⟩
          case measure => simp [intOf]; omega
        · have h1' : D[j].1 ≤ C[i].1 := by omega
          clear h1
          by_cases h2 : D[j].1 < C[i].1
          · go_wp2
            go_quiet (fail)
            go_wp2
            go_quiet (fail)
            go_wp2
            go_roundw
            case rel => exact ⟨i, j + 1, rfl, by go_num, hi, by omega, (hat.out.more hiC hjD h2).drewN _⟩
            case measure => simp [intOf]; omega
          · have h2' : C[i].1 ≤ D[j].1 := by omega
            clear h2
            go_wp2
            go_quiet (fail)
            have hat1 : Hid (At w (wr.drewN nq) C D u5 i j) := hat.out.drewN nq
            have c1' : (wr.drewN nq).cell? ⟨gc, i * 2, none⟩ = some (.int .i32 C[i].1) := c1
            have d1' : (wr.drewN nq).cell? ⟨gd, j * 2, none⟩ = some (.int .i32 D[j].1) := d1
            clear hat c1 d1
            generalize wr.drewN nq = W1 at hat1 c1' d1' ⊢
            go_wp2
            go_quiet (fail)
            have hat2 : Hid (At w (W1.drewN nq) C D u5 i j) := hat1.out.drewN nq
            clear hat1 c1' d1'
            generalize W1.drewN nq = W at hat2 ⊢
            have k1 : W.cell? ⟨gc, i * 2, none⟩ = some (.int .i32 C[i].1) := (hat2.out.bel.cell (by exact hgc)).trans (HR.out.fst _ rfl i hiC)
            have k2 : W.cell? ⟨gc, i * 2 + 1, none⟩ = some (.int .i32 C[i].2) := (hat2.out.bel.cell (by exact hgc)).trans (HR.out.snd _ rfl i hiC)
            have k3 : W.cell? ⟨gd, j * 2 + 1, none⟩ = some (.int .i32 D[j].2) := (hat2.out.bel.cell (by exact hgd)).trans (HR2.out.snd _ rfl j hjD)
            have hown := hat2.out.own
            have hsz := hat2.out.bel.size
            have lg : gc < W.heap.size := by omega
            have ld : gd < W.heap.size := by omega
            have ag : u5.ownBlock ≠ some gc := fun h => by have := (hown.lt gc h).1; omega
            have ad : u5.ownBlock ≠ some gd := fun h => by have := (hown.lt gd h).1; omega
            have hml := Plain.meet_length_le (C := C) (D := D) (i := i)
            generalize hR : Plain.meet (C.take i) D = R at hown hml
            have HRR := hide hR
            clear hR
            go_wp2_with fail
            go_region_held3 (fun w' => w'.cell? ⟨gc, i * 2, none⟩ = some (.int .i32 C[i].1) ∧ w'.cell? ⟨gc, i * 2 + 1, none⟩ = some (.int .i32 C[i].2) ∧ w'.cell? ⟨gd, j * 2 + 1, none⟩ = some (.int .i32 D[j].2))
              (first
                | go_keep
                | (go_split_ands
                   refine ⟨?_, ?_, ?_⟩
                   · (rw [hgrow.cell_far _ (by simp; omega) (Ne.symm ag)]; assumption)
                   · (rw [hgrow.cell_far _ (by simp; omega) (Ne.symm ag)]; assumption)
                   · (rw [hgrow.cell_far _ (by simp; omega) (Ne.symm ad)]; assumption)))
              ((refine step_append_lies _ (by rfl) _ _ _ (by rfl) w.heap.size 42 i0 _ 2 8 Try.underlying38 hi0 hz0 hz1 hz2 rfl (by omega) u5 R.length (ticks R) (by rfl) ((hown.alloc _).drew)
                  ⟨W.heap.size, 0, none⟩ 1 1 [.int .i32 C[i].1, .int .i32 (if D[j].2 < C[i].2 then D[j].2 else C[i].2)] (by rfl) (by rfl) (World.news_of_block (cs := #[.int .i32 C[i].1, .int .i32 (if D[j].2 < C[i].2 then D[j].2 else C[i].2)]) (t := 42) (fr := (0, 0)) (heap_alloc_new W _)) (by simp [Value.oneCell'])
                  (by omega) (by unfold maxLen; omega) (by omega) (by simp; omega) (W.heap.size + 1) (by simp) ?_; intro gg cap w1 hown1 hgrow hat hlt))
            have hmin : (if D[j].2 < C[i].2 then D[j].2 else C[i].2) = min C[i].2 D[j].2 := by split <;> omega
            rw [hmin] at hown1
            have hb1 : Below w.heap.size w w1 := ((hat2.out.bel.alloc hsz _).drew).grown hgrow (by simp; omega) (fun k hk => (hown.lt k hk).1)
            rw [← HRR.out] at hown1
            have HAT := hide (hat2.out.same HC.out hiC hjD (by omega) hown1 hb1)
            rw [HRR.out] at HAT
            clear hown1 hb1 hmin hgrow hat hlt hown hat2 k1 k2 k3
            go_wp2
            go_roundw
            case rel => exact ⟨i + 1, j + 1, by go_num, by go_num, by omega, by omega, HAT⟩
            case measure => simp [intOf]; omega
      · obtain ⟨ao, c', rfl, hrt⟩ := hat.out.endR HC.out (by have := HL2.out; omega)
        have HT := hide hrt
        have HB := hide hat.out.bel
        clear hrt hat
        go_wp2
        go_ret
        exact ⟨ao, c', rfl, HT.out, HB.out⟩
    · obtain ⟨ao, c', rfl, hrt⟩ := hat.out.endL (by have := HL.out; omega)
      have HT := hide hrt
      have HB := hide hat.out.bel
      clear hrt hat
      go_wp2
      go_ret
      exact ⟨ao, c', rfl, HT.out, HB.out⟩

end Go.Proofs.Qxb6603805a
