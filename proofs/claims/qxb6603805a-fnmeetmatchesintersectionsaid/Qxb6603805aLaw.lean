/-
  THE WALK of seat b6603805a's law: FnMeetMatchesIntersection (function 3).
-/
import Derived.Test.Qxb6603805aZZ
namespace Go.Proofs.Qxb6603805a
open Go.RowKit

set_option maxHeartbeats 1000000 in
set_option maxRecDepth 100000 in
/-- Too long a column: the law asks nothing. -/
theorem law_long (a0 a1 a2 a3 : Option Addr) (n0 n1 n2 n3 k0 k1 k2 k3 : Nat) (w : World) (m0 : n0 ≤ 9223372036854775807) (m1 : n1 ≤ 9223372036854775807) (m2 : n2 ≤ 9223372036854775807) (m3 : n3 ≤ 9223372036854775807)
    (h : 65536 < n0 ∨ n0 ≤ 65536 ∧ 65536 < n1 ∨ n0 ≤ 65536 ∧ n1 ≤ 65536 ∧ 65536 < n2 ∨ n0 ≤ 65536 ∧ n1 ≤ 65536 ∧ n2 ≤ 65536 ∧ 65536 < n3) :
    Calls Try.prog 3 #[.slice a0 n0 k0, .slice a1 n1 k1, .slice a2 n2 k2, .slice a3 n3 k3] w fun e w' => e = .returned (.bool true) ∧ Below w.heap.size w w' := by
  rcases h with h | ⟨h, h'⟩ | ⟨h, h', h2⟩ | ⟨h, h', h2, h3⟩
  all_goals
    go_enter Try.func3, Try.ntmps3
    go_wp2
    all_goals (go_ret; exact ⟨rfl, Below.refl _ _⟩)

set_option maxHeartbeats 1000000 in
set_option maxRecDepth 100000 in
/-- Columns of unlike lengths: the law asks nothing. -/
theorem law_unlike (a0 a1 a2 a3 : Option Addr) (n0 n1 n2 n3 k0 k1 k2 k3 : Nat) (w : World) (m0 : n0 ≤ 65536) (m1 : n1 ≤ 65536) (m2 : n2 ≤ 65536) (m3 : n3 ≤ 65536) (h : n0 ≠ n1 ∨ n0 = n1 ∧ n2 ≠ n3) :
    Calls Try.prog 3 #[.slice a0 n0 k0, .slice a1 n1 k1, .slice a2 n2 k2, .slice a3 n3 k3] w fun e w' => e = .returned (.bool true) ∧ Below w.heap.size w w' := by
  rcases h with h | ⟨h, h'⟩
  · have hb : ((n0 : Int) != (n1 : Int)) = true := by rw [bne_iff_ne]; omega
    clear h
    go_enter Try.func3, Try.ntmps3
    go_wp2
    go_ret
    exact ⟨rfl, Below.refl _ _⟩
  · subst h
    have hb : ((n2 : Int) != (n3 : Int)) = true := by rw [bne_iff_ne]; omega
    clear h'
    go_enter Try.func3, Try.ntmps3
    go_wp2
    go_ret
    exact ⟨rfl, Below.refl _ _⟩

end Go.Proofs.Qxb6603805a
