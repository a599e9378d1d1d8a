/-
  THE WALKS of seat b6603526aD: zzSameBytes (function 10).
-/
import Derived.Test.Qxb6603526aDoorClone
import Derived.Deep.QuietTactic
import Derived.BigQuiet
namespace Go.Proofs.Qxb6603526aDoor
open Go.RowKit

set_option maxHeartbeats 400000 in
theorem same_any (a1 a2 : Option Addr) (c1 c2 n : Nat) (l : List UInt8) (w : World) (hn : n ≤ 1048600) (hl : l.length = n) (h1 : Rd w a1 c1 l) (h2 : Rd w a2 c2 l) :
    Calls Tryd.prog 10 #[.slice a1 n c1, .slice a2 n c2] w fun e w' => e = .returned (.bool true) ∧ ∃ q, w' = w.drewN q := by
  have HL : Hid (l.length = n) := hl
  clear hl
  go_enter Tryd.func10, Tryd.ntmps10
  go_wp2
  go_loopw [5] (fun i wr => ∃ k q : Nat, k ≤ n ∧ i = .int .i64 k ∧ wr = w.drewN q) (fun i _ => n - (intOf i).toNat)
  case atStart => exact ⟨0, 0, Nat.zero_le _, rfl, rfl⟩
  case round =>
    obtain ⟨k, q, hk, rfl, rfl⟩ := hrel
    by_cases hlt : k < n
    · have hkl : k < l.length := by rw [HL.out]; exact hlt
      obtain ⟨g1, o1, rfl⟩ := h1.addr (by omega)
      obtain ⟨g2, o2, rfl⟩ := h2.addr (by omega)
      have e1 := h1.cell _ rfl k hkl
      have e2 := h2.cell _ rfl k hkl
      simp only at e1 e2
      clear h1 h2
      go_wp2
      go_quiet (fail)
      go_wp2
      go_roundw
      case rel =>
        exact ⟨k + 1, _, by omega, by go_num, rfl⟩
      case measure => simp [intOf]; omega
    · clear h1 h2
      go_wp2
      go_ret
      exact ⟨rfl, q, rfl⟩

end Go.Proofs.Qxb6603526aDoor
