/-
  THE WALK of seat b6603550aF's law: FnIsUnlinkedExactlyTheFiveByteFrame (function 3).
-/
import Derived.Test.Qxb6603550aFmtBody
namespace Go.Proofs.Qxb6603550aFmt
open Go.RowKit Go.Extern.Stop Go.Stop Go.Extern

/-- The one byte string that IsUnlinked accepts. -/
def isU (l : List UInt8) : Bool := l == [0, 0, 0, 1, 15]

theorem be4 (b0 b1 b2 b3 : UInt8) : Lib.beNat [b0, b1, b2, b3] = b0.toNat * 16777216 + b1.toNat * 65536 + b2.toNat * 256 + b3.toNat := by
  simp [Lib.beNat, Lib.beFrom]
  omega

theorem be4_lt (b0 b1 b2 b3 : UInt8) : Lib.beNat [b0, b1, b2, b3] < 4294967296 := by
  rw [be4]
  have := b0.toNat_lt; have := b1.toNat_lt; have := b2.toNat_lt; have := b3.toNat_lt
  omega

theorem be4_one (b0 b1 b2 b3 : UInt8) (h : Lib.beNat [b0, b1, b2, b3] = 1) : b0 = 0 ∧ b1 = 0 ∧ b2 = 0 ∧ b3 = 1 := by
  rw [be4] at h
  have := b0.toNat_lt; have := b1.toNat_lt; have := b2.toNat_lt; have := b3.toNat_lt
  refine ⟨?_, ?_, ?_, ?_⟩ <;> apply UInt8.toNat_inj.1 <;> simp <;> omega

theorem eq_byte (b : UInt8) (k : Nat) (hk : k < 256) : ((b.toNat : Int) == (k : Int)) = (b == k.toUInt8) := by
  rw [Bool.eq_iff_iff, beq_iff_eq, beq_iff_eq, ← UInt8.toNat_inj, Lib.toUInt8_toNat hk]
  omega

/-- IsUnlinked, whatever the bytes. -/
theorem unl_any (F : Interp) (ao : Option Addr) (c n : Nat) (l : List UInt8) (w : World) (hF : F.answers w.tape) (hl : l.length = n) (hm : n ≤ 1048576) (hr : Rd w ao c l) :
    Calls Tryf.prog 6 #[.slice ao n c] w fun e w' => e = .returned (.bool (isU l)) ∧ Below w.heap.size w w' := by
  by_cases hn : n < 4
  · have e : isU l = false := by
      unfold isU; rw [beq_eq_false_iff_ne]; intro h; subst h; simp at hl; omega
    rw [e]
    exact unl_bad ao n c w (body_short F ao n c w hF hn)
  · obtain ⟨g, o, rfl⟩ := hr.addr (by omega)
    match l, hl, hr with
    | b0 :: b1 :: b2 :: b3 :: r, hl, hr =>
      have c0 : w.cell? ⟨g, o, none⟩ = some (.int .u8 b0.toNat) := hr.cell _ rfl 0 (by simp)
      have c1 : w.cell? ⟨g, o + 1, none⟩ = some (.int .u8 b1.toNat) := hr.cell _ rfl 1 (by simp)
      have c2 : w.cell? ⟨g, o + 2, none⟩ = some (.int .u8 b2.toNat) := hr.cell _ rfl 2 (by simp)
      have c3 : w.cell? ⟨g, o + 3, none⟩ = some (.int .u8 b3.toNat) := hr.cell _ rfl 3 (by simp)
      have hcap := hr.cap
      rw [hl] at hcap
      by_cases hgood : n = 5 ∧ Lib.beNat [b0, b1, b2, b3] = 1
      · obtain ⟨rfl, hd⟩ := hgood
        match r, hl, hr with
        | [b4], hl, hr =>
          have c4 : w.cell? ⟨g, o + 4, none⟩ = some (.int .u8 b4.toNat) := hr.cell _ rfl 4 (by simp)
          obtain ⟨rfl, rfl, rfl, rfl⟩ := be4_one b0 b1 b2 b3 hd
          have e : ((b4.toNat : Int) == 15) = isU [0, 0, 0, 1, b4] := by
            have := eq_byte b4 15 (by omega)
            rw [show ((15 : Nat) : Int) = 15 from rfl] at this
            rw [this]
            rw [Bool.eq_iff_iff]
            simp [isU]
          exact unl_good g o c 0 0 0 1 b4 w hr.lt hcap c0 c1 c2 c3 c4 hd _ e
        | [], hl, _ => simp at hl
        | _ :: _ :: _, hl, _ => simp at hl
      · have e : isU (b0 :: b1 :: b2 :: b3 :: r) = false := by
          unfold isU; rw [beq_eq_false_iff_ne]; intro h
          apply hgood
          simp at h
          obtain ⟨rfl, rfl, rfl, rfl, rfl⟩ := h
          exact ⟨by simpa using hl.symm, by rw [be4]; rfl⟩
        rw [e]
        exact unl_bad _ n c w (body_bad F g o n c _ b0 b1 b2 b3 w hF (by omega) (by omega) hcap c0 c1 c2 c3 rfl (be4_lt _ _ _ _) (by omega))
    | [], hl, _ => simp at hl; omega
    | [_], hl, _ => simp at hl; omega
    | [_, _], hl, _ => simp at hl; omega
    | [_, _, _], hl, _ => simp at hl; omega

/-- THE SEVEN WAYS of the law's own test. -/
theorem ways (l : List UInt8) (n : Nat) (hl : l.length = n) :
    (((n : Int) == 5) = false ∧ isU l = false) ∨
    ∃ b0 b1 b2 b3 b4 : UInt8, n = 5 ∧ l = [b0, b1, b2, b3, b4] ∧
      ((((b0.toNat : Int) == 0) = false ∧ isU l = false) ∨
       (((b0.toNat : Int) == 0) = true ∧ ((b1.toNat : Int) == 0) = false ∧ isU l = false) ∨
       (((b0.toNat : Int) == 0) = true ∧ ((b1.toNat : Int) == 0) = true ∧ ((b2.toNat : Int) == 0) = false ∧ isU l = false) ∨
       (((b0.toNat : Int) == 0) = true ∧ ((b1.toNat : Int) == 0) = true ∧ ((b2.toNat : Int) == 0) = true ∧ ((b3.toNat : Int) == 1) = false ∧ isU l = false) ∨
       (((b0.toNat : Int) == 0) = true ∧ ((b1.toNat : Int) == 0) = true ∧ ((b2.toNat : Int) == 0) = true ∧ ((b3.toNat : Int) == 1) = true ∧ ((b4.toNat : Int) == 15) = false ∧ isU l = false) ∨
       (((b0.toNat : Int) == 0) = true ∧ ((b1.toNat : Int) == 0) = true ∧ ((b2.toNat : Int) == 0) = true ∧ ((b3.toNat : Int) == 1) = true ∧ ((b4.toNat : Int) == 15) = true ∧ isU l = true)) := by
  by_cases hn : n = 5
  · right
    subst hn
    match l, hl with
    | [b0, b1, b2, b3, b4], _ =>
      refine ⟨b0, b1, b2, b3, b4, rfl, rfl, ?_⟩
      have e0 : ((b0.toNat : Int) == 0) = (b0 == 0) := eq_byte b0 0 (by omega)
      have e1 : ((b1.toNat : Int) == 0) = (b1 == 0) := eq_byte b1 0 (by omega)
      have e2 : ((b2.toNat : Int) == 0) = (b2 == 0) := eq_byte b2 0 (by omega)
      have e3 : ((b3.toNat : Int) == 1) = (b3 == 1) := eq_byte b3 1 (by omega)
      have e4 : ((b4.toNat : Int) == 15) = (b4 == 15) := eq_byte b4 15 (by omega)
      have e : isU [b0, b1, b2, b3, b4] = ((b0 == 0) && ((b1 == 0) && ((b2 == 0) && ((b3 == 1) && (b4 == 15))))) := by
        rw [Bool.eq_iff_iff]
        simp [isU]
      rw [e0, e1, e2, e3, e4, e]
      cases b0 == 0 <;> cases b1 == 0 <;> cases b2 == 0 <;> cases b3 == 1 <;> cases b4 == 15 <;> simp
  · left
    refine ⟨by rw [beq_eq_false_iff_ne]; omega, ?_⟩
    unfold isU; rw [beq_eq_false_iff_ne]; intro h; subst h; simp at hl; omega

set_option maxHeartbeats 400000 in
/-- Too long a frame: the law asks nothing. -/
theorem law_long (a : Option Addr) (n c : Nat) (w : World) (hn : 1048576 < n) (hm : n ≤ 9223372036854775807) :
    Calls Tryf.prog 3 #[.slice a n c] w fun e w' => e = .returned (.bool true) ∧ Below w.heap.size w w' := by
  go_enter Tryf.func3, Tryf.ntmps3
  go_wp2
  go_ret
  exact ⟨rfl, Below.refl _ _⟩

set_option maxHeartbeats 1000000 in
theorem law_short (F : Interp) (a : Option Addr) (n c : Nat) (l : List UInt8) (w : World) (hF : F.answers w.tape) (hn : n ≤ 1048576) (hl : l.length = n) (hnil : a = none → n = 0 ∧ c = 0)
    (hb : ∀ x, a = some x → 0 < n → x.spot = none ∧ x.block < w.heap.size) (hc : ∀ x, a = some x → ∀ i (h : i < l.length), w.cell? ⟨x.block, x.off + i, none⟩ = some (.int .u8 (l[i]).toNat)) :
    Calls Tryf.prog 3 #[.slice a n c] w fun e w' => e = .returned (.bool true) ∧ Below w.heap.size w w' := by
  have HL := hide hl
  have HF := hide hF
  have HC := hide (clone_any a l n c w hn hl hnil hb hc)
  have hd : decide ((1048576 : Int) < (n : Int)) = false := by simp; omega
  clear hl hb hc hnil hF
  go_enter Tryf.func3, Tryf.ntmps3
  go_wp2_with (go_at_call 4; go_in)
  refine HC.out.mono ?_
  rintro e w1 ⟨ao, c', rfl, hr1, hb1⟩
  have U := unl_any F ao c' n l w1 (by rw [hb1.tape]; exact HF.out) HL.out hn hr1
  have HU := hide U
  have HR1 := hide hr1
  have HB1 := hide hb1
  clear U hr1 hb1 HC HF
  go_wp2_with fail
  refine HU.out.mono ?_
  rintro e w2 ⟨rfl, hb2⟩
  have HR2 := hide (HR1.out.below hb2 (Nat.le_refl _))
  have HB2 := hide (HB1.out.trans (hb2.mono HB1.out.size))
  clear hb2 HU HR1 HB1
  rcases ways l n HL.out with ⟨h5, hu⟩ | ⟨b0, b1, b2, b3, b4, rfl, rfl, hw⟩
  · rw [hu]
    go_wp2
    go_ret
    exact ⟨rfl, HB2.out⟩
  · obtain ⟨g, o, rfl⟩ := HR2.out.addr (by simp)
    have c0 : w2.cell? ⟨g, o, none⟩ = some (.int .u8 b0.toNat) := HR2.out.cell _ rfl 0 (by simp)
    have c1 : w2.cell? ⟨g, o + 1, none⟩ = some (.int .u8 b1.toNat) := HR2.out.cell _ rfl 1 (by simp)
    have c2 : w2.cell? ⟨g, o + 2, none⟩ = some (.int .u8 b2.toNat) := HR2.out.cell _ rfl 2 (by simp)
    have c3 : w2.cell? ⟨g, o + 3, none⟩ = some (.int .u8 b3.toNat) := HR2.out.cell _ rfl 3 (by simp)
    have c4 : w2.cell? ⟨g, o + 4, none⟩ = some (.int .u8 b4.toNat) := HR2.out.cell _ rfl 4 (by simp)
    clear HL HR2
    rcases hw with ⟨t0, hu⟩ | ⟨t0, t1, hu⟩ | ⟨t0, t1, t2, hu⟩ | ⟨t0, t1, t2, t3, hu⟩ | ⟨t0, t1, t2, t3, t4, hu⟩ | ⟨t0, t1, t2, t3, t4, hu⟩
    all_goals
      rw [hu]
      clear hu
      go_wp2
      go_ret
      exact ⟨rfl, HB2.out⟩

end Go.Proofs.Qxb6603550aFmt
