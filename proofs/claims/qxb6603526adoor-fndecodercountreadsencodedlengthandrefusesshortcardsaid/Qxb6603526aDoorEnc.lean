/-
  THE WALKS of seat b6603526aD: ZZencoderUint (function 8), (*encoder).uint (function 14).
-/
import Derived.Test.Qxb6603526aDoorClone
import Derived.Test.Qxb6603526aDoorShelf
namespace Go.Proofs.Qxb6603526aDoor
open Go.RowKit

set_option maxHeartbeats 400000 in
/-- An empty encoder writes v: the varint of uint64(v), in new memory. -/
theorem enc_any (v : Int) (x : Nat) (hx : x < 18446744073709551616) (hv : IntKind.u64.wrap v = (x : Int)) (w : World) :
    Calls Tryd.prog 8 #[.slice none 0 0, .int .i64 v] w fun e w' => ∃ ao c, e = .returned (.slice ao (Lib.uvarint x).length c) ∧ Rd w' ao c (Lib.uvarint x) ∧ Below w.heap.size w w' := by
  go_enter Tryd.func8, Tryd.ntmps8
  go_wp2_with (go_at_call 14; go_in)
  refine (Tryd.binary_AppendUvarint (w.heap.size + 1) 0 x hx (.slice none 0 0) [] _ (World.ownsRow_nil _ _ _ _) (by simp) (by omega)).mono ?_
  rintro e w1 ⟨v', rfl, hown, hbel⟩
  simp only [List.nil_append] at hown
  obtain ⟨ao, c, rfl, hlen, hrd, hge⟩ := Rd.own hown
  have hc1 : w1.cell? ⟨w.heap.size, 0, none⟩ = some (.slice none 0 0) := by
    rw [hbel.cell (p := ⟨w.heap.size, 0, none⟩) (by simp)]; simp
  have hf1 : w1.frozen? ⟨w.heap.size, 0, none⟩ = false := by
    rw [hbel.frozen (p := ⟨w.heap.size, 0, none⟩) (by simp)]; simp
  have hsz : w.heap.size < w1.heap.size := by have := hbel.size; simp at this; omega
  have hb0 : Below w.heap.size w w1 := ((Below.refl _ _).alloc (Nat.le_refl _) _).trans (hbel.mono (by omega))
  have HR : Hid (Rd w1 ao c (Lib.uvarint x)) := hrd
  clear hown hlen hrd hbel
  go_wp2
  go_end0
  go_wp2
  go_ret
  exact ⟨ao, c, rfl, HR.out.setCell _ _ (fun a ha => by have := hge a ha; simp only [ne_eq]; omega), hb0.setCell (Nat.le_refl _) _⟩

end Go.Proofs.Qxb6603526aDoor
