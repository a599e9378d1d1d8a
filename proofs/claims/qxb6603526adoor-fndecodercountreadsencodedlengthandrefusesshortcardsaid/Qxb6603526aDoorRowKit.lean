/-
  WHAT THE ROWS of seat b6603526aD SHARE: the listed variable (store.errShort), a slice of bytes that came in.
-/
import Derived.Test.Qxb6603526aDoorRows
import Derived.Test.Qxb6603526aDoorMem
import Derived.ProofKit
import Derived.OpenShut
import Derived.ChangeOld
import Derived.LaidMore
import Derived.Stop.Joined
import Derived.Stop.LaidErr
import Derived.MakeChecks
namespace Go.Proofs.Qxb6603526aDoor
open Go.ChangeShapes Go.WideShapes Go.ChangeAt Go.RowKit

theorem own : ownKnob Tryd.prog.godebug = none := by kernel_rfl
theorem laidOut : laidOutB Tryd.prog = true := by kernel_rfl
theorem cells5 : Tryd.prog.cellsOf 5 = 1 := by kernel_rfl
theorem cells67 : Tryd.prog.cellsOf 67 = 1 := by kernel_rfl
theorem cells9 : Tryd.prog.cellsOf 9 = 1 := by kernel_rfl

/-- The variable's name, off the row. -/
def errName : String := Rows.fnEncoderUintDecodesBackThroughDecoderRow.named.headD "none"
/-- What the row lists. -/
def errLaid : List (String × DataW Unit) := [(errName, Rows.laid_example_com_enrole_enrole_store_errShort)]
/-- The dynamic type's name, off the datum. -/
def errType : String := match (Rows.laid_example_com_enrole_enrole_store_errShort : DataW Unit) with | .iface n _ => n | _ => "none"

theorem errG : Tryd.prog.globalNamed errName = some 0 := by kernel_rfl
theorem errT : (Tryd.prog.globals[0]?).map (·.type) = some 29 := by kernel_rfl
theorem errRow (u : TypeId) (h : Tryd.prog.typeName? 3 u = some errType) : u = 46 :=
  typeName_ptr_named (nm := "errors.errorString") (by kernel_rfl) (by kernel_rfl) (by decide) u (h.trans (by kernel_rfl))

/-- WHAT THE CONDITION GIVES THE WALKS: the variable holds an error that is not nil. -/
theorem err_of_laid {W : World} (h : laidMetH Tryd.prog errLaid W) : ∃ a : Addr, W.var? Tryd.prog errName = some #[.iface 46 (.pointer (some a))] ∧ W.cell? ⟨0, 0, none⟩ = some (.iface 46 (.pointer (some a))) ∧ 0 < W.heap.size := by
  rw [MakeChecks.laidMetH_plain _ _ _ (by kernel_rfl)] at h
  obtain ⟨a, s, hv, _, _, _⟩ := laid_sentinel (nm := errType) h errG errT Tryd.underlying29 errRow Tryd.underlying46 Tryd.underlying67 rfl rfl Tryd.underlying9 cells67 cells9
  have hc : W.cell? ⟨0, 0, none⟩ = some (.iface 46 (.pointer (some a))) := by simpa using World.var?_cell errG hv 0
  refine ⟨a, hv, hc, ?_⟩
  rcases Nat.lt_or_ge 0 W.heap.size with h' | h'
  · exact h'
  · simp [World.cell?, Array.getElem?_eq_none h'] at hc

/-- .. and behind a call that turned nothing old. -/
theorem var_below {W W' : World} {a : Addr} (hb : Below W.heap.size W W') (h0 : 0 < W.heap.size) (h : W.var? Tryd.prog errName = some #[.iface 46 (.pointer (some a))]) : W'.var? Tryd.prog errName = some #[.iface 46 (.pointer (some a))] := by
  unfold World.var? at h ⊢
  rw [errG] at h ⊢
  simp only [Option.bind_some] at h ⊢
  rw [hb.block 0 h0]
  exact h

/-- The door's own heap meets the condition. -/
theorem door_met (os : Os) (args : Array Value) : laidMetH Tryd.prog errLaid ((World.doorLaid Tryd.prog 400 os).forCall (fun _ _ => 0) ⟨#[], args, []⟩).memory :=
  laidMetH_of_parts3 (fuel := 8) (laidMet_of_run' 8 (by kernel_rfl) (by kernel_rfl)) (by kernel_rfl) (by kernel_rfl)

/-- A SLICE OF BYTES THAT CAME IN: what the walks ask of it. -/
structure In (w : World) (a : Option Addr) (n c : Nat) (l : List UInt8) : Prop where
  max : n ≤ maxLen
  len : l.length = n
  nil : a = none → n = 0 ∧ c = 0
  spot : ∀ x, a = some x → 0 < n → x.spot = none ∧ x.block < w.heap.size
  cell : ∀ x, a = some x → ∀ i (h : i < l.length), w.cell? ⟨x.block, x.off + i, none⟩ = some (.int .u8 (l[i]).toNat)

theorem byte_back {z : Int} (h : (Lit.int .u8 z).wf = true) : ((z.toNat.toUInt8).toNat : Int) = z := by
  have := bounds_u8 h
  rw [Lib.toUInt8_toNat (by omega)]
  omega

theorem open_in {H : Type} {enc : TypeId × Value → H} {W : World} {a : Option Addr} {n c : Nat} {d : DataW H} {p : List MemPlace} (h : DataW.Trod enc Tryd.prog W 0 (fun _ => true) true 22 (.slice a n c) d p) : ∃ l, In W a n c l := by
  obtain ⟨fuel, hf⟩ := h
  rcases open_ints Tryd.underlying22 Tryd.underlying5 cells5 hf with ⟨hcs, _⟩ | ⟨x, l, cp, zs, hcs, _, hl, hm, hz, _, hcell, hwz⟩
  · simp [Value.cells] at hcs
    obtain ⟨rfl, rfl, rfl⟩ := hcs
    exact ⟨[], ⟨by unfold maxLen; omega, rfl, fun _ => ⟨rfl, rfl⟩, fun _ h => by simp at h, fun _ h => by simp at h⟩⟩
  · simp [Value.cells] at hcs
    obtain ⟨rfl, rfl, rfl⟩ := hcs
    have hz' : zs.length = c := by simpa using hz
    have hsp : 0 < zs.length → x.spot = none := fun h0 => by simpa [Addr.add] using World.cell?_spot (hcell 0 h0)
    have hlt : 0 < zs.length → x.block < W.heap.size := fun h0 => by
      have hc := hcell 0 h0
      rcases Nat.lt_or_ge x.block W.heap.size with h' | h'
      · exact h'
      · simp [World.cell?, Addr.add, Array.getElem?_eq_none h'] at hc
    refine ⟨(zs.take n).map fun z => z.toNat.toUInt8, ⟨by omega, by simp; omega, fun h => by simp at h, fun y hy hn => ?_, fun y hy i hi => ?_⟩⟩
    · simp at hy; subst hy
      exact ⟨hsp (by omega), hlt (by omega)⟩
    · simp at hy; subst hy
      have hi' : i < zs.length := by simp at hi; omega
      have hc := hcell i hi'
      have e := hsp (by omega)
      obtain ⟨b, o, s⟩ := x
      simp only at e
      subst e
      have hg : zs.getD i 0 = zs[i] := by simp [List.getD_eq_getElem?_getD, hi']
      rw [hg] at hc
      simp only [List.getElem_map, List.getElem_take]
      rw [byte_back (hwz _ (List.getElem_mem hi'))]
      rw [add_plain] at hc
      exact hc

end Go.Proofs.Qxb6603526aDoor
