/-
  THE WALKS of seat b6603550aF: zzCloneBytes (function 5).
-/
import Derived.Test.Qxb6603550aFmtRows
import Derived.Test.Qxb6603550aFmtMem
import Derived.WalkSpells
import Derived.WalkLawsBesides
namespace Go.Proofs.Qxb6603550aFmt
open Go.RowKit

theorem Tryf.info5 : (Tryf.prog.info? 5).map (fun i => (i.zero, i.size, i.bytes)) = some (some (.int .u8 0), 1, 1) := by kernel_rfl
theorem q22 : ∀ (w : World) (a : Option Addr) (n c n' c' : Nat), (binOp .eql 22 (.slice a n c) (.slice none n' c')).run Tryf.prog w = .ok (.bool a.isNone) w :=
  fun w a n c n' c' => Lib.run_eql_slice_nil w _ _ a n c n' c' Tryf.underlying22

set_option maxHeartbeats 400000 in
theorem clone_nil (w : World) :
    Calls Tryf.prog 5 #[.slice none 0 0] w fun e w' => e = .returned (.slice none 0 0) ∧ w' = w := by
  have hn := q22
  go_enter Tryf.func5, Tryf.ntmps5
  go_wp2
  go_ret
  exact ⟨rfl, rfl⟩

set_option maxHeartbeats 400000 in
/-- A slice that is not nil ('x': whatever address where there is no element). -/
theorem clone_some (x : Addr) (l : List UInt8) (n c : Nat) (w : World) (hn : n ≤ 1048576) (hl : l.length = n) (hb : 0 < n → x.spot = none ∧ x.block < w.heap.size)
    (hc : ∀ i (h : i < l.length), w.cell? ⟨x.block, x.off + i, none⟩ = some (.int .u8 (l[i]).toNat)) :
    Calls Tryf.prog 5 #[.slice (some x) n c] w fun e w' => e = .returned (.slice (some ⟨w.heap.size, 0, none⟩) n n) ∧
      w'.ownsRow w.heap.size 5 1 (.slice (some ⟨w.heap.size, 0, none⟩) n n) n (Lib.byteCells l) ∧ Below w.heap.size w w' := by
  have hq := q22
  obtain ⟨i0, hi, hz0, hz1, hz2⟩ := info_parts Tryf.info5
  have HL : Hid (l.length = n) := hl
  clear hl
  go_enter Tryf.func5, Tryf.ntmps5
  go_wp2_with (at_make; refine wpList_make_full _ rfl _ _ 22 rfl w.heap.size 5 i0 (.int .u8 0) 1 Tryf.underlying22 hi hz0 hz1 .i64 .i64 _ _ n rfl rfl rfl rfl (by rw [hz2]; omega) (by unfold maxLen; omega) (Nat.le_refl _) ?_)
  intro w1 hown hgrow
  have hown1 := made_fill hown
  have hbel : Below w.heap.size w w1 := (Below.refl _ _).grown hgrow (Nat.le_refl _) (fun k hk => by simp at hk)
  clear hown hgrow hi hz0 hz1 hz2
  go_wp2
  go_loopw [4] (fun i wr => ∃ k : Nat, k ≤ n ∧ i = .int .i64 k ∧ wr.ownsRow w.heap.size 5 1 (.slice (some ⟨w.heap.size, 0, none⟩) n n) n (fill (l.take k) n) ∧ Below w.heap.size w wr) (fun i _ => n - (intOf i).toNat)
  case atStart => exact ⟨0, Nat.zero_le _, rfl, hown1, hbel⟩
  case round =>
    obtain ⟨k, hk, rfl, hown2, hb2⟩ := hrel
    clear hown1 hbel
    by_cases hlt : k < n
    · obtain ⟨b, off, sp⟩ := x
      obtain ⟨hsp, hbl⟩ := hb (by omega)
      simp only at hsp hbl hc
      subst hsp
      have hkl : k < l.length := by rw [HL.out]; exact hlt
      have c1 : wr.cell? ⟨b, off + k, none⟩ = some (.int .u8 (l[k]).toNat) := (hb2.cell (by exact hbl)).trans (hc k hkl)
      have c2 := hown2.frozenAt k
      obtain ⟨u, c3⟩ := own_cell hown2 k hlt
      have R := (hown2.stored k (.int .u8 (l[k]).toNat))
      rw [fill_take l n k hkl (by rw [HL.out]; omega)] at R
      have hb3 := hb2.setCell (p := ⟨w.heap.size, k, none⟩) (Nat.le_refl _) (.int .u8 (l[k]).toNat)
      have R1 := R.1
      clear R hown2 hb2 hc hb
      go_wp2
      go_roundw
      case rel => exact ⟨k + 1, by omega, by go_num, R1, hb3⟩
      case measure => simp [intOf]; omega
    · go_wp2
      go_ret
      have : k = n := by omega
      subst this
      rw [List.take_of_length_le (by rw [HL.out]; omega)] at hown2
      have e := HL.out
      subst e
      rw [fill_full] at hown2
      exact ⟨rfl, hown2, hb2⟩

/-- zzCloneBytes, whatever the slice: what comes back reads as the slice did; nothing old has turned. -/
theorem clone_any (a : Option Addr) (l : List UInt8) (n c : Nat) (w : World) (hn : n ≤ 1048576) (hl : l.length = n) (hnil : a = none → n = 0 ∧ c = 0) (hb : ∀ x, a = some x → 0 < n → x.spot = none ∧ x.block < w.heap.size)
    (hc : ∀ x, a = some x → ∀ i (h : i < l.length), w.cell? ⟨x.block, x.off + i, none⟩ = some (.int .u8 (l[i]).toNat)) :
    Calls Tryf.prog 5 #[.slice a n c] w fun e w' => ∃ ao c', e = .returned (.slice ao n c') ∧ Rd w' ao c' l ∧ Below w.heap.size w w' := by
  match a, hnil, hb, hc with
  | none, hnil, _, _ =>
    obtain ⟨rfl, rfl⟩ := hnil rfl
    have : l = [] := List.eq_nil_of_length_eq_zero hl
    subst this
    exact (clone_nil w).mono fun e w' ⟨he, hw⟩ => by subst hw; exact ⟨none, 0, he, Rd.mkNil _, Below.refl _ _⟩
  | some x, _, hb, hc =>
    refine (clone_some x l n c w hn hl (hb x rfl) (hc x rfl)).mono fun e w' ⟨he, ho, hbel⟩ => ?_
    obtain ⟨ao, c', hv, _, hr, _⟩ := Rd.own ho
    rw [hl] at hv
    exact ⟨ao, c', by rw [he, hv], hr, hbel⟩

end Go.Proofs.Qxb6603550aFmt
