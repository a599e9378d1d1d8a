/-
  THE WALKS of seat b6603646a: (Command).sequencer (function 6), ZZSequencerOf (function 5).
-/
import Derived.Test.Qxb6603646aRows
import Derived.WalkKit
import Derived.WalkSpells
import Derived.Deep.QuietTactic
import Derived.BigQuiet
import Derived.RowKit3
namespace Go.Proofs.Qxb6603646a
open Go.RowKit

theorem hide {p : Prop} (h : p) : Hid p := h

/-- The mode of a grant. -/
def mode (s : Bool) : Int := match s with | true => 1 | false => 2

theorem grown_drewN {W w : World} (h : Grown W w) (q : Nat) : Grown W (w.drewN q) := h

set_option maxHeartbeats 400000 in
theorem seq_any (op : Int) (path : ByteArray) (s : Bool) (ses req gen : Int) (w : World) :
    Calls Try.prog 6 #[.agg #[.int .u8 op, .string path, .slice none 0 0, .int .i64 0, .bool false, .bool false, .bool s, .bool false, .int .u64 ses, .int .u64 req, .int .i64 0, .int .u64 gen, .slice none 0 0]] w fun e w' =>
      e = .returned (.agg #[.string path, .int .u8 (mode s), .int .u64 gen]) ∧ ∃ c1 c2 : Array Value, w' = (w.alloc (.cells c1 34)).alloc (.cells c2 29) := by
  cases s
  · go_enter Try.func6, Try.ntmps6
    go_wp2
    exact bodyPost_ret (v := .agg #[.string path, .int .u8 2, .int .u64 gen]) (by simp [results, Try.results6, go_sem]) rfl ⟨rfl, _, _, rfl⟩
  · go_enter Try.func6, Try.ntmps6
    go_wp2
    exact bodyPost_ret (v := .agg #[.string path, .int .u8 1, .int .u64 gen]) (by simp [results, Try.results6, go_sem]) rfl ⟨rfl, _, _, rfl⟩

set_option maxHeartbeats 400000 in
theorem of_any (op : Int) (path : ByteArray) (s : Bool) (ses req gen : Int) (w : World) :
    Calls Try.prog 5 #[.int .u8 op, .string path, .slice none 0 0, .int .i64 0, .bool false, .bool false, .bool s, .bool false, .int .u64 ses, .int .u64 req, .int .i64 0, .int .u64 gen] w fun e w' =>
      e = .returned (.tuple #[.string path, .int .u8 (mode s), .int .u64 gen]) ∧ ∃ (c1 c2 c3 : Array Value) (q : Nat), w' = (((w.alloc (.cells c1 34)).alloc (.cells c2 29)).alloc (.cells c3 29)).drewN q := by
  go_enter Try.func5, Try.ntmps5
  go_wp2_with (go_at_call 6; refine (seq_any op path s ses req gen w).mono ?_; rintro e w1 ⟨rfl, c1, c2, rfl⟩)
  go_quiet (fail)
  go_wp2
  go_ret3
  exact ⟨rfl, _, _, _, nq, rfl⟩

set_option maxHeartbeats 1000000 in
theorem law_long (a0 : ByteArray) (a1 : Bool) (a2 a3 a4 a5 : Int) (a6 : ByteArray) (a7 : Bool) (a8 a9 a10 a11 : Int) (h0 : a0.size ≤ 9223372036854775807) (h6 : a6.size ≤ 9223372036854775807)
    (h : 1048576 < a0.size ∨ a0.size ≤ 1048576 ∧ 1048576 < a6.size ∨ a0.size ≤ 1048576 ∧ a6.size ≤ 1048576 ∧ 1048576 < a0.size + a6.size) (w : World) :
    Calls Try.prog 3 #[.string a0, .bool a1, .int .u64 a2, .int .u8 a3, .int .u64 a4, .int .u64 a5, .string a6, .bool a7, .int .u64 a8, .int .u8 a9, .int .u64 a10, .int .u64 a11] w fun e w' => e = .returned (.bool true) ∧ Grown w w' := by
  rcases h with h | ⟨h, h'⟩ | ⟨h, h', h2⟩
  all_goals
    go_enter Try.func3, Try.ntmps3
    go_wp2
    go_ret
    exact ⟨rfl, Grown.refl _⟩

set_option maxHeartbeats 1000000 in
theorem law_short (a0 : ByteArray) (a1 : Bool) (a2 a3 a4 a5 : Int) (a6 : ByteArray) (a7 : Bool) (a8 a9 a10 a11 : Int) (h0 : a0.size ≤ 1048576) (h6 : a6.size ≤ 1048576) (h2 : a0.size + a6.size ≤ 1048576) (w : World) :
    Calls Try.prog 3 #[.string a0, .bool a1, .int .u64 a2, .int .u8 a3, .int .u64 a4, .int .u64 a5, .string a6, .bool a7, .int .u64 a8, .int .u8 a9, .int .u64 a10, .int .u64 a11] w fun e w' => e = .returned (.bool true) ∧ Grown w w' := by
  have d0 : decide ((1048576 : Int) < (a0.size : Int)) = false := by simp; omega
  have d1 : decide ((1048576 : Int) < (a6.size : Int)) = false := by simp; omega
  have d2 : decide ((1048576 : Int) < (a0.size : Int) + (a6.size : Int)) = false := by simp; omega
  go_enter Try.func3, Try.ntmps3
  go_wp2_with (go_at_call 4; go_in)
  refine (of_any a3 a0 a1 a4 a5 a2 _).mono ?_
  rintro e w1 ⟨rfl, c1, c2, c3, q1, hw1⟩
  have HW1 := hide hw1
  clear hw1
  go_wp2_with fail
  refine (of_any a9 a6 a7 a10 a11 a8 _).mono ?_
  rintro e w2 ⟨rfl, c4, c5, c6, q2, hw2⟩
  have HW2 := hide hw2
  clear hw2
  have hg1 : Grown w w1 := by rw [HW1.out]; exact grown_drewN ((((Grown.refl _).alloc _ _).alloc _ _).alloc _ _) _
  have HG : Hid (Grown w w2) := by unfold Hid; rw [HW2.out]; exact grown_drewN (((hg1.alloc _ _).alloc _ _).alloc _ _) _
  clear hg1 HW1 HW2
  have m1 : mode true = 1 := rfl
  have m2 : mode false = 2 := rfl
  cases hp : (a0.toList == a6.toList) <;> cases hq : (a2 == a8) <;> cases a1 <;> cases a7
  all_goals
    go_wp2
    go_ret
    exact ⟨rfl, HG.out⟩

end Go.Proofs.Qxb6603646a
