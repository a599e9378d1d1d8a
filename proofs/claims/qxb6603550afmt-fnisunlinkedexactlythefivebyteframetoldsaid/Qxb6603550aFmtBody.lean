/-
  THE WALKS of seat b6603550aF: checkLength (function 10), frameBody (function 7), IsUnlinked (function 6).
-/
import Derived.Test.Qxb6603550aFmtErr
import Derived.Test.Qxb6603550aFmtShelf
namespace Go.Proofs.Qxb6603550aFmt
open Go.RowKit Go.Extern.Stop Go.Stop Go.Extern

set_option maxHeartbeats 400000 in
theorem check_ok (d : Int) (w : World) (h0 : 0 ≤ d) (h1 : d ≤ 1) :
    Calls Tryf.prog 10 #[.int .u64 d, .int .i64 1] w fun e w' => e = .returned .nilIface ∧ w' = w := by
  go_enter Tryf.func10, Tryf.ntmps10
  go_wp2
  go_ret
  exact ⟨rfl, rfl⟩

set_option maxHeartbeats 400000 in
theorem check_bad (F : Interp) (d : Int) (w : World) (hF : F.answers w.tape) (h1 : 1 < d) :
    Calls Tryf.prog 10 #[.int .u64 d, .int .i64 1] w fun e w' => ∃ T u, e = .returned (.iface T u) ∧ Below w.heap.size w w' := by
  go_enter Tryf.func10, Tryf.ntmps10
  go_wp2_with (go_at_call 8; refine (errorf_D F w.heap.size d 1 _ (by exact hF) (by simp) (by simp)).mono ?_; rintro e w1 ⟨T, u, rfl, hb⟩)
  go_ret
  exact ⟨T, u, rfl, ((Below.refl _ _).alloc (Nat.le_refl _) _).trans (hb.mono (by simp))⟩

set_option maxHeartbeats 400000 in
/-- Fewer than four bytes. -/
theorem body_short (F : Interp) (a : Option Addr) (n c : Nat) (w : World) (hF : F.answers w.tape) (hn : n < 4) :
    Calls Tryf.prog 7 #[.slice a n c, .int .i64 1] w fun e w' => ∃ T u, e = .returned (.tuple #[.slice none 0 0, .iface T u]) ∧ Below w.heap.size w w' := by
  go_enter Tryf.func7, Tryf.ntmps7
  go_wp2_with (go_at_call 8; refine (errorf_A F w.heap.size (n : Int) _ (by exact hF) (by simp)).mono ?_; rintro e w1 ⟨T, u, rfl, hb⟩)
  go_ret2
  exact ⟨T, u, rfl, ((Below.refl _ _).alloc (Nat.le_refl _) _).trans (hb.mono (by simp))⟩

set_option maxHeartbeats 1000000 in
/-- Four bytes or more, that are no frame of one byte. -/
theorem body_bad (F : Interp) (g o n c d : Nat) (b0 b1 b2 b3 : UInt8) (w : World) (hF : F.answers w.tape) (hn : 4 ≤ n) (hm : n ≤ 1048600) (hnc : n ≤ c)
    (c0 : w.cell? ⟨g, o, none⟩ = some (.int .u8 b0.toNat)) (c1 : w.cell? ⟨g, o + 1, none⟩ = some (.int .u8 b1.toNat)) (c2 : w.cell? ⟨g, o + 2, none⟩ = some (.int .u8 b2.toNat)) (c3 : w.cell? ⟨g, o + 3, none⟩ = some (.int .u8 b3.toNat))
    (hd : Lib.beNat [b0, b1, b2, b3] = d) (hd2 : d < 4294967296) (hbad : n ≠ 5 ∨ d ≠ 1) :
    Calls Tryf.prog 7 #[.slice (some ⟨g, o, none⟩) n c, .int .i64 1] w fun e w' => ∃ T u, e = .returned (.tuple #[.slice none 0 0, .iface T u]) ∧ Below w.heap.size w w' := by
  have U := Tryf.binary_BE_Uint32 g o n c b0 b1 b2 b3 w hn c0 c1 c2 c3
  rw [hd] at U
  have HU := hide U
  have HB := hide hbad
  clear U hd c0 c1 c2 c3 hbad
  go_enter Tryf.func7, Tryf.ntmps7
  go_wp2_with (go_at_call 9; refine HU.out.mono ?_; rintro e w1 ⟨rfl, hb1⟩)
  all_goals
    have hF1 : F.answers w1.tape := by rw [hb1.tape]; exact hF
    have HF1 := hide hF1
    have HB1 := hide hb1
    clear hF1 hb1 HU hF
    by_cases hd1 : 1 < d
    · refine (check_bad F d w1 HF1.out (by omega)).mono ?_
      rintro e w2 ⟨T, u, rfl, hb2⟩
      have HB2 := hide (HB1.out.trans (hb2.mono HB1.out.size))
      clear hb2
      go_wp2
      go_ret2
      exact ⟨T, u, rfl, HB2.out⟩
    · refine (check_ok d w1 (by omega) (by omega)).mono ?_
      rintro e w2 ⟨rfl, hw2⟩
      subst hw2
      by_cases h1 : n - 4 < d
      · have h1' : ((n - 4 : Nat) : Int) < (d : Int) := by omega
        go_wp2_with (go_at_call 8; refine (errorf_B F w2.heap.size (d : Int) ((n - 4 : Nat) : Int) _ (by exact HF1.out) (by simp) (by simp)).mono ?_; rintro e w3 ⟨T, u, rfl, hb3⟩)
        go_ret2
        exact ⟨T, u, rfl, HB1.out.trans (((Below.refl _ _).alloc (Nat.le_refl _) _).trans (hb3.mono (by simp)) |>.mono HB1.out.size)⟩
      · by_cases h2 : d < n - 4
        · first
            | (exfalso; omega)
            | skip
          all_goals
            go_wp2_with (go_at_call 8; refine (errorf_C F w2.heap.size (((n - 4 : Nat) : Int) - (d : Int)) (d : Int) _ (by exact HF1.out) (by simp) (by simp)).mono ?_; rintro e w3 ⟨T, u, rfl, hb3⟩)
            go_ret2
            exact ⟨T, u, rfl, HB1.out.trans (((Below.refl _ _).alloc (Nat.le_refl _) _).trans (hb3.mono (by simp)) |>.mono HB1.out.size)⟩
        · obtain rfl : d = 0 := by have := HB.out; omega
          have h4 : n = 4 := by omega
          have H4 := hide h4
          clear h4 h1 h2 hd1
          have hl : ((n - 4 : Nat) : Int) ≤ 0 := by have := H4.out; omega
          go_wp2_with (go_at_call 11; refine (new_any _ _).mono ?_; rintro e w3 ⟨T, u, rfl, hb3⟩)
          go_ret2
          exact ⟨T, u, rfl, HB1.out.trans (hb3.mono HB1.out.size)⟩

set_option maxHeartbeats 1000000 in
/-- A frame of one byte. -/
theorem body_good (g o c : Nat) (b0 b1 b2 b3 : UInt8) (w : World) (hnc : 5 ≤ c)
    (c0 : w.cell? ⟨g, o, none⟩ = some (.int .u8 b0.toNat)) (c1 : w.cell? ⟨g, o + 1, none⟩ = some (.int .u8 b1.toNat)) (c2 : w.cell? ⟨g, o + 2, none⟩ = some (.int .u8 b2.toNat)) (c3 : w.cell? ⟨g, o + 3, none⟩ = some (.int .u8 b3.toNat))
    (hd : Lib.beNat [b0, b1, b2, b3] = 1) :
    Calls Tryf.prog 7 #[.slice (some ⟨g, o, none⟩) 5 c, .int .i64 1] w fun e w' => e = .returned (.tuple #[.slice (some ⟨g, o + 4, none⟩) 1 (c - 4), .nilIface]) ∧ Below w.heap.size w w' := by
  have U := Tryf.binary_BE_Uint32 g o 5 c b0 b1 b2 b3 w (by omega) c0 c1 c2 c3
  rw [hd] at U
  have HU := hide U
  have hc4 : ¬ c = 4 := by omega
  clear U hd c0 c1 c2 c3
  go_enter Tryf.func7, Tryf.ntmps7
  go_wp2_with (first
    | (go_at_call 9; refine HU.out.mono ?_; rintro e w1 ⟨rfl, hb1⟩)
    | (go_at_call 10; refine (check_ok 1 _ (by omega) (by omega)).mono ?_; rintro e w2 ⟨rfl, hw2⟩; subst hw2))
  go_ret2
  exact ⟨rfl, by assumption⟩

set_option maxHeartbeats 400000 in
theorem unl_bad {P : World → Prop} (a : Option Addr) (n c : Nat) (w : World) (h : Calls Tryf.prog 7 #[.slice a n c, .int .i64 1] w fun e w' => ∃ T u, e = .returned (.tuple #[.slice none 0 0, .iface T u]) ∧ P w') :
    Calls Tryf.prog 6 #[.slice a n c] w fun e w' => e = .returned (.bool false) ∧ P w' := by
  have H := hide h
  clear h
  go_enter Tryf.func6, Tryf.ntmps6
  go_wp2_with (go_at_call 7; refine H.out.mono ?_; rintro e w1 ⟨T, u, rfl, hb1⟩)
  go_ret
  exact ⟨rfl, by assumption⟩

set_option maxHeartbeats 400000 in
theorem unl_good (g o c : Nat) (b0 b1 b2 b3 b4 : UInt8) (w : World) (hg : g < w.heap.size) (hnc : 5 ≤ c)
    (c0 : w.cell? ⟨g, o, none⟩ = some (.int .u8 b0.toNat)) (c1 : w.cell? ⟨g, o + 1, none⟩ = some (.int .u8 b1.toNat)) (c2 : w.cell? ⟨g, o + 2, none⟩ = some (.int .u8 b2.toNat)) (c3 : w.cell? ⟨g, o + 3, none⟩ = some (.int .u8 b3.toNat)) (c4 : w.cell? ⟨g, o + 4, none⟩ = some (.int .u8 b4.toNat))
    (hd : Lib.beNat [b0, b1, b2, b3] = 1) (r : Bool) (hr : ((b4.toNat : Int) == 15) = r) :
    Calls Tryf.prog 6 #[.slice (some ⟨g, o, none⟩) 5 c] w fun e w' => e = .returned (.bool r) ∧ Below w.heap.size w w' := by
  have H := hide (body_good g o c b0 b1 b2 b3 w hnc c0 c1 c2 c3 hd)
  clear hd c0 c1 c2 c3
  go_enter Tryf.func6, Tryf.ntmps6
  go_wp2_with (go_at_call 7; refine H.out.mono ?_; rintro e w1 ⟨rfl, hb1⟩; have c5 := (hb1.cell (p := ⟨g, o + 4, none⟩) hg).trans c4)
  go_ret
  exact ⟨rfl, by assumption⟩

end Go.Proofs.Qxb6603550aFmt
