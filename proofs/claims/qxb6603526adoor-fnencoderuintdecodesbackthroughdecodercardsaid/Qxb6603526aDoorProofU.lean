/-
  THE ROW AND THE TIED CARD of seat b6603526aD's first law: FnEncoderUintDecodesBackThroughDecoder.
-/
import Derived.Test.Qxb6603526aDoorLawU
import Derived.Test.Qxb6603526aDoorRowKit
import Derived.Test.Qxb6603526aDoorTie
import Derived.Test.Qxb6603526aDoorCards
import Derived.SevenTiedAt
namespace Go.Proofs.Qxb6603526aDoor.lawU
open Go.ChangeShapes Go.WideShapes Go.ChangeAt Go.RowKit

/-- uint64(v). -/
theorem wrapped (v : Int) (h : (Lit.int .i64 v).wf = true) : ∃ x : Nat, x < 18446744073709551616 ∧ IntKind.u64.wrap v = (x : Int) ∧ (0 ≤ v → v = (x : Int) ∧ (x : Int) ≤ 9223372036854775807) ∧ (v < 0 → 9223372036854775807 < (x : Int)) := by
  have hb := bounds_i64 h
  have e : IntKind.u64.wrap v = v % 18446744073709551616 := by simp [IntKind.wrap, IntKind.signed, IntKind.bits]
  refine ⟨(v % 18446744073709551616).toNat, by omega, by rw [e]; omega, fun _ => by omega, fun _ => by omega⟩

theorem walk (v : Int) (hv : (Lit.int .i64 v).wf = true) (a : Option Addr) (n c : Nat) (l : List UInt8) (T : TypeId) (u : Value) (w : World) (hin : In w a n c l) (hg : w.cell? ⟨0, 0, none⟩ = some (.iface T u)) (h0 : 0 < w.heap.size) :
    Calls Tryd.prog 3 #[.int .i64 v, .slice a n c] w fun e w' => e = .returned (.bool true) ∧ Below w.heap.size w w' := by
  by_cases hn : n ≤ 1048576
  · obtain ⟨x, h1, h2, h3, h4⟩ := wrapped v hv
    exact lawU_short v x a n c l T u w hn hin.len hin.nil hin.spot hin.cell hg h0 h1 h2 h3 h4
  · exact lawU_long v a n c w (by omega) (by have := hin.max; unfold maxLen at this; omega)

set_option maxRecDepth 100000 in
theorem lifted (os : Os) (started : os.Started) (H : Type) (enc : TypeId × Value → H) :
    ReturnsInHanded {} Tryd.checked os 3 .any (fun w args => (Rows.fnEncoderUintDecodesBackThroughDecoderSpec.pre enc Tryd.prog Tryd.f3 [] false w args ∧ laidMetH Tryd.prog errLaid w) ∧ sizedMet enc Tryd.prog Tryd.f3 (OpenSpec.ofChange Rows.fnEncoderUintDecodesBackThroughDecoderSpec) false w args)
      (Rows.fnEncoderUintDecodesBackThroughDecoderSpec.post enc Tryd.prog Tryd.f3 false true false false) := by
  refine returnsInHanded_of_change_and (C := Tryd.checked) (X := fun w _ => laidMetH Tryd.prog errLaid w) (fun _ _ _ hh h => h.of_heap hh) own started (by kernel_rfl) Tryd.func3
    (ChangeSpec.witness_shaped (enc := enc) (C := Tryd.checked) (os := os) (X := fun w _ => laidMetH Tryd.prog errLaid w) false (World.doorLaid Tryd.prog 400 os) #[.int .i64 0, .slice none 0 0] 8 rfl (World.shaped_of_RefB (by kernel_rfl) (by kernel_rfl)) (by kernel_rfl) (by kernel_rfl) (by kernel_rfl) (door_met os _)) ?_
  intro W base args ds gs before hval0 hW _ _ hL _
  have hval : ∀ (j : Nat) t v, Tryd.f3.params[j]? = some t → args[j]? = some v → Value.okWide Tryd.prog W .any base t v := hval0
  have hW' := hW
  obtain ⟨p, q, hA0, hV0, rfl, hfz, hnd⟩ := hW
  have hA : DataW.TrodAll enc Tryd.prog W 0 (fun _ => true) true Tryd.f3.params.toList args.toList ds p := hA0
  have hV : DataW.TrodVars enc Tryd.prog W (fun _ => true) [errName] gs q := hV0
  rw [Tryd.params3] at hA hval
  obtain ⟨v0, v1, d0, d1, p0, p1, rfl, rfl, rfl, h0, h1⟩ := trodAll_two hA
  obtain ⟨v, rfl, rfl, rfl, wv⟩ := open_int Tryd.underlying3 (hval 0 3 v0 rfl rfl) h0
  obtain ⟨a1, len1, cap1, rfl⟩ := okWide_slice Tryd.underlying22 (hval 1 22 v1 rfl rfl)
  have k1 := h1
  have lt1 : ∀ x ∈ p1, x.block < W.heap.size := by obtain ⟨m, hm⟩ := k1; exact DataW.trod_lt m _ _ _ hm
  obtain ⟨l, hin⟩ := open_in h1
  obtain ⟨a, hv, hg, hz⟩ := err_of_laid hL
  obtain ⟨rfl, rfl⟩ := hV.unique (vars_read1 enc errG errT Tryd.underlying29 hv trivial _)
  clear hA0 hV0 hval0
  refine (walk v wv a1 len1 cap1 l 46 _ W hin hg hz).mono fun e W' ⟨he, bel⟩ => ?_
  subst he
  exact ⟨_, rfl, _, _, _, [], _, [.cell 0 0], hW', trodAll_mk1 (shut_bool Tryd.underlying4 _),
    trodAll_mk2 (shut_int Tryd.underlying3 wv) (Below.trod laidOut (by kernel_rfl) (of_decide_eq_true (by kernel_rfl)) k1 bel lt1),
    vars_read1 enc errG errT Tryd.underlying29 (var_below bel hz hv) trivial _, bel.frame _, fun h => by cases h⟩

theorem over : Rows.FnEncoderUintDecodesBackThroughDecoderSaid :=
  OpenClaim.holds_of_wide 3 Tryd.f3 rfl rfl rfl rfl rfl rfl rfl ⟨rfl, rfl, rfl, rfl, rfl⟩ rfl rfl rfl rfl rfl (by kernel_rfl) Tryd.func3 (by kernel_rfl)
    (of_decide_eq_true (by kernel_rfl)) (by unfold Func.isWrapper; first | (rw [if_pos (by decide +kernel)]; kernel_rfl) | (rw [if_neg (by decide +kernel)]; exact ⟨rfl, rfl⟩))
    (fun os started H enc _ => lifted os started H enc)

/-- THE CARD. -/
theorem proved : Rows.FnEncoderUintDecodesBackThroughDecoderCardSaid :=
  Claim7.holds_tied_plain_at .later [] [.sentinel] true Rows.fnEncoderUintDecodesBackThroughDecoderCard.stood.harness false
    over (fun _ h => by cases h) (by kernel_rfl) (fun _ h => by cases h) fnEncoderUintDecodesBackThroughDecoder_row_tie rfl ⟨rfl, rfl⟩ (by kernel_rfl) rfl
    (fun f fn hf hfn => by
      obtain rfl : f = 3 := Option.some.inj ((show Tryd.prog.funcNamed Rows.fnEncoderUintDecodesBackThroughDecoderRow.func = some 3 by kernel_rfl).symm.trans hf) |>.symm
      obtain rfl : fn = Tryd.f3 := (Option.some.inj (Tryd.func3.symm.trans hfn)).symm
      exact ⟨by kernel_rfl, fun j t ht => by
        rw [Tryd.params3] at ht
        have hm : t ∈ [3, 22] := by simpa using Array.mem_of_getElem? ht
        have hall : ([3, 22].all fun u => !Tryd.prog.wantsStandIn u) = true := by kernel_rfl
        exact (show Tryd.prog.wantsStandIn t = false by simpa using List.all_eq_true.1 hall t hm)⟩)
    (by kernel_rfl)
#print axioms proved
end Go.Proofs.Qxb6603526aDoor.lawU
