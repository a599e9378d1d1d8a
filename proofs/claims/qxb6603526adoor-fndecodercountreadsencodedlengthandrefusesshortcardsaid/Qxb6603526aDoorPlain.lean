/-
  THE PLAIN LAWS of seat b6603526aD: varints and bit lengths. No Go in sight.
-/
import Derived.Lib.Varint
import Derived.Lib.VarintDec
namespace Go.Proofs.Qxb6603526aDoor
namespace Plain
open Go

theorem byte_small {x : Nat} (h : x < 128) : x.toUInt8.toNat = x := by
  simp [Nat.toUInt8, UInt8.toNat_ofNat']; omega
theorem byte_big (x : Nat) : (x % 128 + 128).toUInt8.toNat = x % 128 + 128 := by
  simp [Nat.toUInt8, UInt8.toNat_ofNat']; omega

/-- What is written is what is read: from the i-th byte on. -/
theorem from_uvarint (r : List UInt8) : ∀ (f x i acc : Nat), x < f → i ≤ 9 → x * 2 ^ (7 * i) < 18446744073709551616 →
    Lib.uvarintFrom i acc (Lib.uvarint x ++ r) = (acc + x * 2 ^ (7 * i), ((i + (Lib.uvarint x).length : Nat) : Int)) := by
  intro f
  induction f with
  | zero => intro x i acc h; omega
  | succ f ih =>
    intro x i acc hx hi hlt
    have h9 : i = 9 → x < 2 := by
      intro h; subst h
      have e : (2 : Nat) ^ (7 * 9) = 9223372036854775808 := by decide
      rw [e] at hlt; omega
    by_cases hs : x < 128
    · rw [Lib.uvarint_small hs]
      simp only [List.cons_append, List.nil_append, Lib.uvarintFrom, byte_small hs]
      rw [if_neg (by omega), if_pos hs, if_neg (by intro h; have := h9 h.1; omega)]
      simp
    · have hb : 128 ≤ x := by omega
      rw [Lib.uvarint_big hb]
      simp only [List.cons_append, Lib.uvarintFrom, byte_big]
      have hi8 : i ≤ 8 := by
        by_cases h : i = 9
        · have := h9 h; omega
        · omega
      rw [if_neg (by omega), if_neg (by omega)]
      have hp : (2 : Nat) ^ (7 * (i + 1)) = 128 * 2 ^ (7 * i) := by rw [Nat.mul_add, Nat.pow_add]; simp [Nat.mul_comm]
      have hle : x / 128 * (128 * 2 ^ (7 * i)) ≤ x * 2 ^ (7 * i) := by
        rw [← Nat.mul_assoc]; exact Nat.mul_le_mul_right _ (by omega)
      rw [ih (x / 128) (i + 1) _ (by omega) (by omega) (by rw [hp]; omega)]
      have e1 : (x % 128 + 128) % 128 = x % 128 := by omega
      have e2 : x % 128 * 2 ^ (7 * i) + x / 128 * (128 * 2 ^ (7 * i)) = x * 2 ^ (7 * i) := by
        rw [← Nat.mul_assoc, ← Nat.add_mul]; congr 1; omega
      rw [e1, hp, Nat.add_assoc, e2]
      simp only [List.length_cons, Prod.mk.injEq, true_and]
      omega

theorem dec_uvarint (x : Nat) (r : List UInt8) (h : x < 18446744073709551616) :
    Lib.uvarintDec (Lib.uvarint x ++ r) = (x, ((Lib.uvarint x).length : Int)) := by
  have := from_uvarint r (x + 1) x 0 0 (by omega) (by omega) (by simpa using h)
  simpa [Lib.uvarintDec] using this

/-- How many halvings till nothing is left (f: fuel). -/
def bl : Nat → Nat → Nat
  | 0, _ => 0
  | f + 1, x => if x = 0 then 0 else 1 + bl f (x / 2)

theorem bl_zero (f : Nat) : bl f 0 = 0 := by cases f <;> simp [bl]
theorem bl_step (f x : Nat) (h : x ≠ 0) : bl (f + 1) x = 1 + bl f (x / 2) := by simp [bl, h]
theorem bl_le : ∀ (k f x : Nat), x < 2 ^ k → bl f x ≤ k := by
  intro k
  induction k with
  | zero => intro f x h; have : x = 0 := by simpa using h
            subst this; rw [bl_zero]; omega
  | succ k ih =>
    intro f x h
    cases f with
    | zero => simp [bl]
    | succ f =>
      by_cases hx : x = 0
      · subst hx; rw [bl_zero]; omega
      · rw [bl_step f x hx]
        have := ih f (x / 2) (by rw [Nat.pow_succ] at h; omega)
        omega

/-- What Go's text wants: the bytes that a number takes. -/
def want (b : Nat) : Nat := if (b + 6) / 7 = 0 then 1 else (b + 6) / 7

theorem want_uvarint : ∀ (n x f : Nat), x < n → x < 2 ^ f → want (bl f x) = (Lib.uvarint x).length := by
  intro n
  induction n with
  | zero => intro x f h; omega
  | succ n ih =>
    intro x f hn hf
    by_cases hs : x < 128
    · rw [Lib.uvarint_small hs]
      by_cases h0 : x = 0
      · subst h0; rw [bl_zero]; rfl
      · have h7 := bl_le 7 f x hs
        have h1 : 1 ≤ bl f x := by
          cases f with
          | zero => simp at hf; omega
          | succ f => rw [bl_step f x h0]; omega
        unfold want
        have : (bl f x + 6) / 7 = 1 := by omega
        rw [this]; rfl
    · rw [Lib.uvarint_big (by omega)]
      obtain ⟨g, rfl⟩ : ∃ g, f = g + 7 := by
        refine ⟨f - 7, ?_⟩
        by_cases h : f ≤ 7
        · have := Nat.pow_le_pow_right (show 0 < 2 by decide) h
          have e : (2 : Nat) ^ 7 = 128 := by decide
          omega
        · omega
      have hd : x / 2 / 2 / 2 / 2 / 2 / 2 / 2 = x / 128 := by omega
      have e : bl (g + 7) x = 7 + bl g (x / 128) := by
        rw [bl_step (g + 6) x (by omega), bl_step (g + 5) _ (by omega), bl_step (g + 4) _ (by omega), bl_step (g + 3) _ (by omega), bl_step (g + 2) _ (by omega), bl_step (g + 1) _ (by omega), bl_step g _ (by omega), hd]
        omega
      have hlt : x / 128 < 2 ^ g := by
        rw [Nat.pow_add] at hf
        have e : (2 : Nat) ^ 7 = 128 := by decide
        rw [e] at hf; omega
      have := ih (x / 128) g (by omega) hlt
      have hp := Lib.uvarint_pos (x / 128)
      rw [e, List.length_cons, ← this]
      rw [← this] at hp
      have h128 : bl g (x / 128) ≠ 0 := by
        intro h
        cases g with
        | zero => simp at hlt; omega
        | succ g => rw [bl_step g _ (by omega)] at h; omega
      unfold want at *
      rw [if_neg (by omega), if_neg (by omega)]
      omega

/-- A number below 2^63 is told apart from one above. -/
theorem cast_pos (v : Int) (h0 : 0 ≤ v) (h1 : v ≤ 9223372036854775807) : (v % 18446744073709551616) = v := by omega
theorem cast_neg (v : Int) (h0 : v < 0) (h1 : -9223372036854775808 ≤ v) : (v % 18446744073709551616) = v + 18446744073709551616 := by omega

end Plain
end Go.Proofs.Qxb6603526aDoor
