/-
  THE WALKS of seat b6603805a: zzClock (function 19).
-/
import Derived.Test.Qxb6603805aSmall
import Derived.RegionTactic
import Derived.BigRegion
import Derived.Deep.RegionHeld3
namespace Go.Proofs.Qxb6603805a
open Go.RowKit

theorem info42 : (Try.prog.info? 42).map (fun i => (i.zero, i.size, i.bytes)) = some (some (.agg #[.int .i32 0, .int .i32 0]), 2, 8) := by kernel_rfl

/-- What a row of N ticks holds when the clock C is laid at its head. -/
def tfill (C : List (Int × Int)) (N : Nat) : List Value := ticks C ++ List.replicate ((N - C.length) * 2) (.int .i32 0)
theorem tfill_full (C : List (Int × Int)) : tfill C C.length = ticks C := by simp [tfill]
theorem tfill_set (C : List (Int × Int)) (N : Nat) (x : Int × Int) (h : C.length < N) : ((tfill C N).set (C.length * 2) (.int .i32 x.1)).set (C.length * 2 + 1) (.int .i32 x.2) = tfill (C ++ [x]) N := by
  obtain ⟨m, hm⟩ : ∃ m, N - C.length = m + 1 := ⟨N - C.length - 1, by omega⟩
  have hm' : N - (C ++ [x]).length = m := by simp; omega
  unfold tfill
  rw [hm, hm', List.set_append, if_neg (by rw [ticks_length]; omega), ticks_length, Nat.sub_self, show (m + 1) * 2 = m * 2 + 1 + 1 by omega, List.replicate_succ, List.replicate_succ, List.set_cons_zero,
    List.set_append, if_neg (by rw [ticks_length]; omega), ticks_length, show C.length * 2 + 1 - C.length * 2 = 1 by omega, List.set_cons_succ, List.set_cons_zero, ticks_append, ticks_cons, ticks_nil]
  simp
theorem tfill_take (C : List (Int × Int)) (N k : Nat) (h : k < C.length) (hN : C.length ≤ N) : ((tfill (C.take k) N).set (k * 2) (.int .i32 C[k].1)).set (k * 2 + 1) (.int .i32 C[k].2) = tfill (C.take (k + 1)) N := by
  have hk : (C.take k).length = k := by simp; omega
  have := tfill_set (C.take k) N C[k] (by omega)
  rw [hk] at this
  rw [this, List.take_succ_eq_append_getElem h]

theorem made_ticks (n : Nat) : (madeCells #[Value.int .i32 0, Value.int .i32 0] (n * 2)).toList = tfill [] n := by
  apply List.ext_getElem?
  intro j
  have h2 : j % 2 = 0 ∨ j % 2 = 1 := by omega
  by_cases hj : j < n * 2
  · rcases h2 with h2 | h2 <;> simp [madeCells, tfill, ticks, hj, h2]
  · simp [madeCells, tfill, ticks, hj]

set_option maxHeartbeats 400000 in
theorem clock_nil (n c : Nat) (v : Value) (w : World) :
    Calls Try.prog 19 #[.slice none n c, v] w fun e w' => e = .returned (.slice none 0 0) ∧ w' = w := by
  have hn := q22
  go_enter Try.func19, Try.ntmps19
  go_wp2
  go_ret
  exact ⟨rfl, rfl⟩

set_option maxHeartbeats 1000000 in
theorem clock_some (x : Addr) (ac : Option Addr) (wl cl : List Int) (n c1 c2 : Nat) (w : World) (hn : n ≤ 65536) (hl : wl.length = n) (hl2 : cl.length = n) (hr : Rd w (some x) wl) (hr2 : Rd w ac cl) :
    Calls Try.prog 19 #[.slice (some x) n c1, .slice ac n c2] w fun e w' => e = .returned (.slice (some ⟨w.heap.size, 0, none⟩) n n) ∧
      w'.ownsRow w.heap.size 42 2 (.slice (some ⟨w.heap.size, 0, none⟩) n n) n (ticks (Plain.clock wl cl)) ∧ Below w.heap.size w w' := by
  have hq := q22
  obtain ⟨i0, hi, hz0, hz1, hz2⟩ := info_parts info42
  have HL := hide hl
  have HL2 := hide hl2
  have HR := hide hr
  have HR2 := hide hr2
  have HC := hide (Plain.clock_length wl cl (by omega))
  clear hl hr hl2 hr2
  go_enter Try.func19, Try.ntmps19
  go_wp2_with (at_make; refine wpList_make_full _ rfl _ _ 38 rfl w.heap.size 42 i0 (.agg #[.int .i32 0, .int .i32 0]) 2 Try.underlying38 hi hz0 hz1 .i64 .i64 _ _ n rfl rfl rfl rfl (by rw [hz2]; omega) (by unfold maxLen; omega) (Nat.le_refl _) ?_)
  intro w1 hown hgrow
  have hown1 : w1.ownsRow w.heap.size 42 2 (.slice (some ⟨w.heap.size, 0, none⟩) n n) n (tfill [] n) := by rw [← made_ticks]; exact hown
  have hbel : Below w.heap.size w w1 := (Below.refl _ _).grown hgrow (Nat.le_refl _) (fun k hk => by simp at hk)
  clear hown hgrow hi hz0 hz1 hz2
  go_wp2
  go_loopw [6] (fun i wr => ∃ k : Nat, k ≤ n ∧ i = .int .i64 k ∧ wr.ownsRow w.heap.size 42 2 (.slice (some ⟨w.heap.size, 0, none⟩) n n) n (tfill ((Plain.clock wl cl).take k) n) ∧ Below w.heap.size w wr) (fun i _ => n - (intOf i).toNat)
  case atStart => exact ⟨0, Nat.zero_le _, rfl, hown1, hbel⟩
  case round =>
    obtain ⟨k, hk, rfl, hown2, hb2⟩ := hrel
    clear hown1 hbel
    by_cases hlt : k < n
    · have hkl : k < wl.length := by rw [HL.out]; exact hlt
      have hkl2 : k < cl.length := by rw [HL2.out]; exact hlt
      obtain ⟨b, off, he, hbl⟩ := HR.out.addr (by omega)
      obtain rfl := Option.some.inj he
      obtain ⟨b2, off2, rfl, hbl2⟩ := HR2.out.addr (by omega)
      have e1 : wr.cell? ⟨b, off + k, none⟩ = some (.int .i32 wl[k]) := (hb2.cell (by exact hbl)).trans (HR.out.cell _ rfl k hkl)
      have e2 : wr.cell? ⟨b2, off2 + k, none⟩ = some (.int .i32 cl[k]) := (hb2.cell (by exact hbl2)).trans (HR2.out.cell _ rfl k hkl2)
      have f0 := hown2.frozenAt (k * 2)
      have f1 := hown2.frozenAt (k * 2 + 1)
      obtain ⟨u0, g0⟩ : ∃ u, wr.cell? ⟨w.heap.size, k * 2, none⟩ = some u := by
        rw [hown2.cellAt (k * 2) (by omega)]; exact ⟨_, List.getElem?_eq_getElem (by rw [hown2.1]; omega)⟩
      obtain ⟨u1, g1⟩ : ∃ u, wr.cell? ⟨w.heap.size, k * 2 + 1, none⟩ = some u := by
        rw [hown2.cellAt (k * 2 + 1) (by omega)]; exact ⟨_, List.getElem?_eq_getElem (by rw [hown2.1]; omega)⟩
      have R := ((hown2.stored (k * 2) (.int .i32 wl[k])).1.stored (k * 2 + 1) (.int .i32 cl[k])).1
      have T := tfill_take (Plain.clock wl cl) n k (by rw [HC.out]; exact hkl) (by rw [HC.out, HL.out]; exact Nat.le_refl _)
      rw [Plain.clock_get wl cl k hkl hkl2] at T
      simp only at T
      rw [T] at R
      have HO := hide R
      have HB := hide ((hb2.setCell (p := ⟨w.heap.size, k * 2, none⟩) (Nat.le_refl _) (.int .i32 wl[k])).setCell (p := ⟨w.heap.size, k * 2 + 1, none⟩) (Nat.le_refl _) (.int .i32 cl[k]))
      clear hown2 hb2 he R T
      have hlt0 : (0 : Int) ≤ (k : Int) := by omega
      have hlt1 : (k : Int) < (n : Int) := by omega
      go_wp2
      go_region
      go_wp2
      go_roundw
      case rel => exact ⟨k + 1, by omega, by go_num, HO.out.drew, HB.out.drew⟩
      case measure => simp [intOf]; omega
    · go_wp2
      go_ret
      have : k = n := by omega
      subst this
      rw [List.take_of_length_le (by rw [HC.out, HL.out]; omega)] at hown2
      have e : tfill (Plain.clock wl cl) k = ticks (Plain.clock wl cl) := by
        have := tfill_full (Plain.clock wl cl)
        rwa [HC.out, HL.out] at this
      rw [e] at hown2
      exact ⟨rfl, hown2, hb2⟩

/-- zzClock, whatever the columns. -/
theorem clock_any (aw ac : Option Addr) (wl cl : List Int) (n c1 c2 : Nat) (w : World) (hn : n ≤ 65536) (hl : wl.length = n) (hl2 : cl.length = n) (hr : Rd w aw wl) (hr2 : Rd w ac cl) :
    Calls Try.prog 19 #[.slice aw n c1, .slice ac n c2] w fun e w' => ∃ ao c', e = .returned (.slice ao n c') ∧ Rt w' ao (Plain.clock wl cl) ∧ Below w.heap.size w w' := by
  match aw, hr with
  | none, hr =>
    have := hr.nil rfl
    subst this
    obtain rfl : n = 0 := hl.symm
    exact (clock_nil 0 c1 _ w).mono fun e w' ⟨he, hw⟩ => by subst hw; exact ⟨none, 0, he, Rt.mkNil _, Below.refl _ _⟩
  | some x, hr =>
    refine (clock_some x ac wl cl n c1 c2 w hn hl hl2 hr hr2).mono fun e w' ⟨he, ho, hbel⟩ => ?_
    obtain ⟨ao, c', hv, _, h⟩ := Rt.own ho
    exact ⟨ao, c', by rw [he, hv], h, hbel⟩

end Go.Proofs.Qxb6603805a
