/-
  THE ROW AND THE TIED CARD of seat b6603526aD's second law: FnDecoderCountReadsEncodedLengthAndRefusesShort.
-/
import Derived.Test.Qxb6603526aDoorLawC
import Derived.Test.Qxb6603526aDoorRowKit
import Derived.Test.Qxb6603526aDoorTie
import Derived.Test.Qxb6603526aDoorCards
import Derived.SevenTiedAt
namespace Go.Proofs.Qxb6603526aDoor.lawC
open Go.ChangeShapes Go.WideShapes Go.ChangeAt Go.RowKit

theorem walk (a b : Option Addr) (n c m d : Nat) (l1 l2 : List UInt8) (T : TypeId) (u : Value) (w : World) (h1 : In w a n c l1) (h2 : In w b m d l2) (hg : w.cell? ⟨0, 0, none⟩ = some (.iface T u)) (h0 : 0 < w.heap.size) :
    Calls Tryd.prog 5 #[.slice a n c, .slice b m d] w fun e w' => e = .returned (.bool true) ∧ Below w.heap.size w w' := by
  by_cases hn : n ≤ 524288 ∧ m ≤ 524288
  · exact lawC_short a b n c m d l1 l2 T u w h1 h2 hn.1 hn.2 hg h0
  · exact lawC_long a b n c m d w (by have := h1.max; unfold maxLen at this; omega) (by have := h2.max; unfold maxLen at this; omega) (by omega)

set_option maxRecDepth 100000 in
theorem lifted (os : Os) (started : os.Started) (H : Type) (enc : TypeId × Value → H) :
    ReturnsInHanded {} Tryd.checked os 5 .any (fun w args => (Rows.fnDecoderCountReadsEncodedLengthAndRefusesShortSpec.pre enc Tryd.prog Tryd.f5 [] false w args ∧ laidMetH Tryd.prog errLaid w) ∧ sizedMet enc Tryd.prog Tryd.f5 (OpenSpec.ofChange Rows.fnDecoderCountReadsEncodedLengthAndRefusesShortSpec) false w args)
      (Rows.fnDecoderCountReadsEncodedLengthAndRefusesShortSpec.post enc Tryd.prog Tryd.f5 false true false false) := by
  refine returnsInHanded_of_change_and (C := Tryd.checked) (X := fun w _ => laidMetH Tryd.prog errLaid w) (fun _ _ _ hh h => h.of_heap hh) own started (by kernel_rfl) Tryd.func5
    (ChangeSpec.witness_shaped (enc := enc) (C := Tryd.checked) (os := os) (X := fun w _ => laidMetH Tryd.prog errLaid w) false (World.doorLaid Tryd.prog 400 os) #[.slice none 0 0, .slice none 0 0] 8 rfl (World.shaped_of_RefB (by kernel_rfl) (by kernel_rfl)) (by kernel_rfl) (by kernel_rfl) (by kernel_rfl) (door_met os _)) ?_
  intro W base args ds gs before hval0 hW _ _ hL _
  have hval : ∀ (j : Nat) t v, Tryd.f5.params[j]? = some t → args[j]? = some v → Value.okWide Tryd.prog W .any base t v := hval0
  have hW' := hW
  obtain ⟨p, q, hA0, hV0, rfl, hfz, hnd⟩ := hW
  have hA : DataW.TrodAll enc Tryd.prog W 0 (fun _ => true) true Tryd.f5.params.toList args.toList ds p := hA0
  have hV : DataW.TrodVars enc Tryd.prog W (fun _ => true) [errName] gs q := hV0
  rw [Tryd.params5] at hA hval
  obtain ⟨v0, v1, d0, d1, p0, p1, rfl, rfl, rfl, h0, h1⟩ := trodAll_two hA
  obtain ⟨a0, len0, cap0, rfl⟩ := okWide_slice Tryd.underlying22 (hval 0 22 v0 rfl rfl)
  have k0 := h0
  have lt0 : ∀ x ∈ p0, x.block < W.heap.size := by obtain ⟨m, hm⟩ := k0; exact DataW.trod_lt m _ _ _ hm
  obtain ⟨l0, hin0⟩ := open_in h0
  obtain ⟨a1, len1, cap1, rfl⟩ := okWide_slice Tryd.underlying22 (hval 1 22 v1 rfl rfl)
  have k1 := h1
  have lt1 : ∀ x ∈ p1, x.block < W.heap.size := by obtain ⟨m, hm⟩ := k1; exact DataW.trod_lt m _ _ _ hm
  obtain ⟨l1, hin1⟩ := open_in h1
  obtain ⟨a, hv, hg, hz⟩ := err_of_laid hL
  obtain ⟨rfl, rfl⟩ := hV.unique (vars_read1 enc errG errT Tryd.underlying29 hv trivial _)
  clear hA0 hV0 hval0
  refine (walk a0 a1 len0 cap0 len1 cap1 l0 l1 46 _ W hin0 hin1 hg hz).mono fun e W' ⟨he, bel⟩ => ?_
  subst he
  exact ⟨_, rfl, _, _, _, [], _, [.cell 0 0], hW', trodAll_mk1 (shut_bool Tryd.underlying4 _),
    trodAll_mk2 (Below.trod laidOut (by kernel_rfl) (of_decide_eq_true (by kernel_rfl)) k0 bel lt0) (Below.trod laidOut (by kernel_rfl) (of_decide_eq_true (by kernel_rfl)) k1 bel lt1),
    vars_read1 enc errG errT Tryd.underlying29 (var_below bel hz hv) trivial _, bel.frame _, fun h => by cases h⟩

theorem over : Rows.FnDecoderCountReadsEncodedLengthAndRefusesShortSaid :=
  OpenClaim.holds_of_wide 5 Tryd.f5 rfl rfl rfl rfl rfl rfl rfl ⟨rfl, rfl, rfl, rfl, rfl⟩ rfl rfl rfl rfl rfl (by kernel_rfl) Tryd.func5 (by kernel_rfl)
    (of_decide_eq_true (by kernel_rfl)) (by unfold Func.isWrapper; first | (rw [if_pos (by decide +kernel)]; kernel_rfl) | (rw [if_neg (by decide +kernel)]; exact ⟨rfl, rfl⟩))
    (fun os started H enc _ => lifted os started H enc)

/-- THE CARD. -/
theorem proved : Rows.FnDecoderCountReadsEncodedLengthAndRefusesShortCardSaid :=
  Claim7.holds_tied_plain_at .later [] [.sentinel] true Rows.fnDecoderCountReadsEncodedLengthAndRefusesShortCard.stood.harness false
    over (fun _ h => by cases h) (by kernel_rfl) (fun _ h => by cases h) fnDecoderCountReadsEncodedLengthAndRefusesShort_row_tie rfl ⟨rfl, rfl⟩ (by kernel_rfl) rfl
    (fun f fn hf hfn => by
      obtain rfl : f = 5 := Option.some.inj ((show Tryd.prog.funcNamed Rows.fnDecoderCountReadsEncodedLengthAndRefusesShortRow.func = some 5 by kernel_rfl).symm.trans hf) |>.symm
      obtain rfl : fn = Tryd.f5 := (Option.some.inj (Tryd.func5.symm.trans hfn)).symm
      exact ⟨by kernel_rfl, fun j t ht => by
        rw [Tryd.params5] at ht
        have hm : t ∈ [22] := by simpa using Array.mem_of_getElem? ht
        have hall : ([22].all fun u => !Tryd.prog.wantsStandIn u) = true := by kernel_rfl
        exact (show Tryd.prog.wantsStandIn t = false by simpa using List.all_eq_true.1 hall t hm)⟩)
    (by kernel_rfl)
#print axioms proved
end Go.Proofs.Qxb6603526aDoor.lawC
