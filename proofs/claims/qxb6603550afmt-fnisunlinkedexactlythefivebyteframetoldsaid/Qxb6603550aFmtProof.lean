/-
  THE ROW AND THE TOLD CARD of seat b6603550aF's law: FnIsUnlinkedExactlyTheFiveByteFrame. fmt's texts are told by the authors' own function; the law hangs on none of them.
-/
import Derived.Test.Qxb6603550aFmtLaw
import Derived.Test.Qxb6603550aFmtCards
import Derived.ProofKit
import Derived.OpenShut
import Derived.ChangeSlices
import Derived.ChangeSame
import Derived.JoinedOf
import Derived.Carry
import Derived.Stop.JoinedAt
import Derived.Stop.Texts
import Derived.Stop.JoinedTold
import Derived.SizedLaws
import Derived.SevenToldRow
namespace Go.Proofs.Qxb6603550aFmt
open Go.ChangeShapes Go.WideShapes Go.ChangeAt Go.RowKit Go.Kit
open Go.Extern.Stop Go.Stop Go.Extern

theorem own : ownKnob Tryf.prog.godebug = none := by kernel_rfl
theorem laidOut : laidOutB Tryf.pinned.checked.prog = true := by kernel_rfl
theorem cells5 : Tryf.prog.cellsOf 5 = 1 := by kernel_rfl
theorem stops : Tryf.pinned.checked.prog.stops = ["fmt.errorf"] := by kernel_rfl
theorem stopKnobs : Tryf.pinned.checked.prog.stopKnobs = [] := by kernel_rfl
theorem quiet (os : Os) : Stop.quiet Tryf.pinned.checked.prog os := by
  intro k hk
  rw [stopKnobs] at hk
  cases hk

/-- A SLICE OF BYTES THAT CAME IN: what the walks ask of it. -/
structure In (w : World) (a : Option Addr) (n c : Nat) (l : List UInt8) : Prop where
  max : n ≤ maxLen
  len : l.length = n
  nil : a = none → n = 0 ∧ c = 0
  spot : ∀ x, a = some x → 0 < n → x.spot = none ∧ x.block < w.heap.size
  cell : ∀ x, a = some x → ∀ i (h : i < l.length), w.cell? ⟨x.block, x.off + i, none⟩ = some (.int .u8 (l[i]).toNat)

theorem byte_back {z : Int} (h : (Lit.int .u8 z).wf = true) : ((z.toNat.toUInt8).toNat : Int) = z := by
  have := bounds_u8 h
  rw [Lib.toUInt8_toNat (by omega)]
  omega

theorem open_in {H : Type} {enc : TypeId × Value → H} {W : World} {a : Option Addr} {n c : Nat} {d : DataW H} {p : List MemPlace} (h : DataW.Trod enc Tryf.prog W 0 (fun _ => true) true 22 (.slice a n c) d p) : ∃ l, In W a n c l := by
  obtain ⟨fuel, hf⟩ := h
  rcases open_ints Tryf.underlying22 Tryf.underlying5 cells5 hf with ⟨hcs, _⟩ | ⟨x, l, cp, zs, hcs, _, hl, hm, hz, _, hcell, hwz⟩
  · simp [Value.cells] at hcs
    obtain ⟨rfl, rfl, rfl⟩ := hcs
    exact ⟨[], ⟨by unfold maxLen; omega, rfl, fun _ => ⟨rfl, rfl⟩, fun _ h => by simp at h, fun _ h => by simp at h⟩⟩
  · simp [Value.cells] at hcs
    obtain ⟨rfl, rfl, rfl⟩ := hcs
    have hz' : zs.length = c := by simpa using hz
    have hsp : 0 < zs.length → x.spot = none := fun h0 => by simpa [Addr.add] using World.cell?_spot (hcell 0 h0)
    have hlt : 0 < zs.length → x.block < W.heap.size := fun h0 => by
      have hc := hcell 0 h0
      rcases Nat.lt_or_ge x.block W.heap.size with h' | h'
      · exact h'
      · simp [World.cell?, Addr.add, Array.getElem?_eq_none h'] at hc
    refine ⟨(zs.take n).map fun z => z.toNat.toUInt8, ⟨by omega, by simp; omega, fun h => by simp at h, fun y hy hn => ?_, fun y hy i hi => ?_⟩⟩
    · simp at hy; subst hy
      exact ⟨hsp (by omega), hlt (by omega)⟩
    · simp at hy; subst hy
      have hi' : i < zs.length := by simp at hi; omega
      have hc := hcell i hi'
      have e := hsp (by omega)
      obtain ⟨b, o, s⟩ := x
      simp only at e
      subst e
      have hg : zs.getD i 0 = zs[i] := by simp [List.getD_eq_getElem?_getD, hi']
      rw [hg] at hc
      simp only [List.getElem_map, List.getElem_take]
      rw [byte_back (hwz _ (List.getElem_mem hi'))]
      rw [add_plain] at hc
      exact hc

theorem walk (F : Interp) (a : Option Addr) (n c : Nat) (l : List UInt8) (w : World) (hF : F.answers w.tape) (hin : In w a n c l) :
    Calls Tryf.prog 3 #[.slice a n c] w fun e w' => e = .returned (.bool true) ∧ Below w.heap.size w w' := by
  by_cases hn : n ≤ 1048576
  · exact law_short F a n c l w hF hn hin.len hin.nil hin.spot hin.cell
  · exact law_long a n c w (by omega) (by have := hin.max; unfold maxLen at this; omega)

set_option maxRecDepth 100000 in
theorem lifted (os : Os) (started : os.Started) (H : Type) (enc : TypeId × Value → H) :
    ReturnsInTold none {} Tryf.checked os 3 .any Input.okWide ((OpenSpec.ofChange Rows.fnIsUnlinkedExactlyTheFiveByteFrameSpec).preRow enc Tryf.prog Tryf.f3 [] false []) (fun F => ((OpenSpec.ofChange Rows.fnIsUnlinkedExactlyTheFiveByteFrameSpec).at F).post enc Tryf.prog Tryf.f3 false true false false) (aloneAtReturn Tryf.prog) nothingAlways := by
  refine returnsInTold_of_row (C := Tryf.checked) (s := OpenSpec.ofChange Rows.fnIsUnlinkedExactlyTheFiveByteFrameSpec) (by kernel_rfl) own started (by kernel_rfl) Tryf.func3
    (OpenSpec.witness_stopped (enc := enc) (C := Tryf.checked) false ⟨#[], #[.slice none 0 0], []⟩ 8 (by kernel_rfl) (by kernel_rfl) (by kernel_rfl) (by kernel_rfl)) ?_
  intro F W base args ds gs before _ hF hval0 hW _ _ _ _ _
  have hval : ∀ (j : Nat) t v, Tryf.f3.params[j]? = some t → args[j]? = some v → Value.okWide Tryf.prog W .any base t v := hval0
  have hW' := hW
  obtain ⟨p, q, hA0, hV, rfl, _, _⟩ := hW
  have hA : DataW.TrodAll enc Tryf.prog W 0 (fun _ => true) true Tryf.f3.params.toList args.toList ds p := hA0
  rw [Tryf.params3] at hA hval
  obtain ⟨v0, d0, rfl, rfl, h0⟩ := trodAll_one hA
  obtain ⟨rfl, rfl⟩ := trodVars_none hV
  obtain ⟨a0, len0, cap0, rfl⟩ := okWide_slice Tryf.underlying22 (hval 0 22 v0 rfl rfl)
  have k0 := h0
  have lt0 : ∀ x ∈ p, x.block < W.heap.size := by obtain ⟨m, hm⟩ := k0; exact DataW.trod_lt m _ _ _ hm
  obtain ⟨l0, hin0⟩ := open_in h0
  clear hA0 hval0
  refine (walk F.told a0 len0 cap0 l0 W hF hin0).mono fun e W' ⟨he, bel⟩ => ?_
  subst he
  exact ⟨_, rfl, _, _, _, [], _, [], hW', trodAll_mk1 (shut_bool Tryf.underlying4 _),
    trodAll_mk1 (Below.trod laidOut (by kernel_rfl) (of_decide_eq_true (by kernel_rfl)) k0 bel lt0), rfl, bel.frame _, fun h => by cases h⟩

/-- THE CARD. -/
theorem proved : Rows.FnIsUnlinkedExactlyTheFiveByteFrameToldSaid :=
  Claim7.holds_of_told_any 3 Tryf.f3 "fmt.errorf" [] [] _ _ _ (by kernel_rfl) rfl rfl rfl laidOut (by kernel_rfl) rfl ⟨rfl, rfl, rfl, rfl, rfl, rfl, rfl⟩ rfl rfl (by kernel_rfl) (by kernel_rfl) Tryf.func3 (by kernel_rfl)
    (of_decide_eq_true (by kernel_rfl)) (by unfold Func.isWrapper; first | (rw [if_pos (by decide +kernel)]; kernel_rfl) | (rw [if_neg (by decide +kernel)]; exact ⟨rfl, rfl⟩)) stops.symm rfl stopKnobs.symm (by kernel_rfl)
    (by kernel_rfl) (by kernel_rfl) (by kernel_rfl) (by kernel_rfl) (by kernel_rfl) (by kernel_rfl) (by kernel_rfl) (by kernel_rfl) (by kernel_rfl) rfl (by kernel_rfl) rfl rfl
    rfl rfl
    rfl (by kernel_rfl) (by kernel_rfl) (by kernel_rfl) (by decide) (by kernel_rfl)
    (OpenClaim.moreEntering_of (by kernel_rfl) (by kernel_rfl) (by kernel_rfl) (by kernel_rfl) (by kernel_rfl) (by kernel_rfl) (by kernel_rfl) (by kernel_rfl) (by kernel_rfl) (by kernel_rfl))
    ⟨_, WideRow.started_initial, quiet _⟩
    (fun os started _ H enc _ => lifted os started H enc)
#print axioms proved
end Go.Proofs.Qxb6603550aFmt
