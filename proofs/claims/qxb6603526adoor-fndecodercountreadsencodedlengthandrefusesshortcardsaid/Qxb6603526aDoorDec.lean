/-
  THE WALKS of seat b6603526aD: the decoder: ZZdecoderUint (function 9), (*decoder).uint (function 15), (*decoder).fail (function 19).
-/
import Derived.Test.Qxb6603526aDoorClone
import Derived.Test.Qxb6603526aDoorShelf
import Derived.Deep.QuietTactic
import Derived.BigQuiet
namespace Go.Proofs.Qxb6603526aDoor
open Go.RowKit

/-- 'b[k:]' of the slice at ⟨g, o⟩ of capacity c. -/
def Cut (g o c k : Nat) (ao : Option Addr) (c' : Nat) : Prop := c' + k = c ∧ (ao = some ⟨g, o + k, none⟩ ∨ c = k ∧ ao = some ⟨g, o, none⟩)

theorem Rd.cut {w : World} {g o c k c' : Nat} {ao : Option Addr} {l : List UInt8} (h : Rd w (some ⟨g, o, none⟩) c l) (hk : k ≤ l.length) (hc : Cut g o c k ao c') : Rd w ao c' (l.drop k) := by
  obtain ⟨h1, rfl | ⟨h2, rfl⟩⟩ := hc
  · have := h.drop hk
    rwa [show c - k = c' by omega] at this
  · have hcap := h.cap
    have e : l.drop k = [] := List.drop_eq_nil_of_le (by omega)
    rw [e]
    exact ⟨fun h => by simp at h, Nat.zero_le _, fun a ha => by simp at ha; subst ha; exact ⟨rfl, h.lt⟩, fun a ha j hj => by simp at hj⟩

set_option maxHeartbeats 400000 in
theorem uint_ok (p g o n c : Nat) (l : List UInt8) (w : World) (hl : l.length = n) (hnc : n ≤ c) (_hn : n ≤ 1048600) (hcell : ∀ j (hj : j < l.length), w.cell? ⟨g, o + j, none⟩ = some (.int .u8 (l[j]).toNat))
    (hp : w.cell? ⟨p, 0, none⟩ = some (.slice (some ⟨g, o, none⟩) n c)) (hf : w.frozen? ⟨p, 0, none⟩ = false)
    (x k : Nat) (hx : (x : Int) ≤ 9223372036854775807) (hk : 0 < k) (hkn : k ≤ n) (hdec : Lib.uvarintDec l = (x, (k : Int))) :
    Calls Tryd.prog 15 #[.pointer (some ⟨p, 0, none⟩)] w fun e w' => e = .returned (.int .i64 x) ∧ ∃ ao c', w' = w.setCell ⟨p, 0, none⟩ (.slice ao (n - k) c') ∧ Cut g o c k ao c' := by
  have HD : Hid (Lib.uvarintDec l = (x, (k : Int))) := hdec
  have HL : Hid (l.length = n) := hl
  clear hdec hl
  go_enter Tryd.func15, Tryd.ntmps15
  go_wp2_with fail
  refine (Tryd.binary_Uvarint g o n c l _ HL.out hcell).mono ?_
  rintro e w1 ⟨rfl, hw⟩
  subst hw
  rw [HD.out]
  clear hcell
  go_wp2
  · go_ret
    rename_i h
    exact ⟨rfl, _, _, rfl, by omega, .inr ⟨rfl, rfl⟩⟩
  · go_ret
    exact ⟨rfl, _, _, rfl, by omega, .inl rfl⟩

set_option maxHeartbeats 400000 in
/-- (*decoder).fail: the error is recorded where none is; b is emptied. -/
theorem fail_fresh (p : Nat) (T : TypeId) (u b : Value) (w : World)
    (hp : w.cell? ⟨p, 0, none⟩ = some b) (hf : w.frozen? ⟨p, 0, none⟩ = false) (hp1 : w.cell? ⟨p, 1, none⟩ = some .nilIface) (hf1 : w.frozen? ⟨p, 1, none⟩ = false) :
    Calls Tryd.prog 19 #[.pointer (some ⟨p, 0, none⟩), .iface T u] w fun e w' => e = .returned (.tuple #[]) ∧ w' = (w.setCell ⟨p, 1, none⟩ (.iface T u)).setCell ⟨p, 0, none⟩ (.slice none 0 0) := by
  go_enter Tryd.func19, Tryd.ntmps19
  go_wp2
  go_end0
  exact ⟨rfl, rfl⟩

set_option maxHeartbeats 400000 in
/-- What cannot be read. -/
theorem uint_bad (p g o n c : Nat) (l : List UInt8) (T : TypeId) (u : Value) (w : World) (hl : l.length = n) (hcell : ∀ j (hj : j < l.length), w.cell? ⟨g, o + j, none⟩ = some (.int .u8 (l[j]).toNat))
    (hp : w.cell? ⟨p, 0, none⟩ = some (.slice (some ⟨g, o, none⟩) n c)) (hf : w.frozen? ⟨p, 0, none⟩ = false) (hp1 : w.cell? ⟨p, 1, none⟩ = some .nilIface) (hf1 : w.frozen? ⟨p, 1, none⟩ = false)
    (hg : w.cell? ⟨0, 0, none⟩ = some (.iface T u))
    (x : Nat) (k : Int) (hx : k ≤ 0 ∨ 0 < k ∧ 9223372036854775807 < (x : Int)) (hdec : Lib.uvarintDec l = (x, k)) :
    Calls Tryd.prog 15 #[.pointer (some ⟨p, 0, none⟩)] w fun e w' => e = .returned (.int .i64 0) ∧ w' = (w.setCell ⟨p, 1, none⟩ (.iface T u)).setCell ⟨p, 0, none⟩ (.slice none 0 0) := by
  have HD : Hid (Lib.uvarintDec l = (x, k)) := hdec
  have HL : Hid (l.length = n) := hl
  clear hdec hl
  rcases hx with hx | ⟨hk, hx⟩
  all_goals
    go_enter Tryd.func15, Tryd.ntmps15
    go_wp2_with fail
    refine (Tryd.binary_Uvarint g o n c l _ HL.out hcell).mono ?_
    rintro e w1 ⟨rfl, hw⟩
    subst hw
    rw [HD.out]
    clear hcell
    go_wp2_with (go_at_call 19; refine (fail_fresh p T u _ _ hp hf hp1 hf1).mono ?_; rintro e w2 ⟨rfl, rfl⟩)
    go_ret
    exact ⟨rfl, rfl⟩

/-- A new block behind which draws were made: nothing old has turned. -/
theorem fresh_below (w : World) (o : Obj) (q : Nat) : Below w.heap.size w ((w.alloc o).drewN q) := below_drewN ((Below.refl _ _).alloc (Nat.le_refl _) _) q

theorem Rd.cells {w : World} {g o c : Nat} {l : List UInt8} (h : Rd w (some ⟨g, o, none⟩) c l) (ob : Obj) (j : Nat) (hj : j < l.length) : (w.alloc ob).cell? ⟨g, o + j, none⟩ = some (.int .u8 (l[j]).toNat) := by
  rw [((Below.refl w.heap.size w).alloc (Nat.le_refl _) ob).cell (p := ⟨g, o + j, none⟩) h.lt]
  exact h.cell _ rfl j hj

theorem old_cell {w : World} {a : Addr} {v : Value} (h : w.cell? a = some v) (ob : Obj) (hb : a.block < w.heap.size) : (w.alloc ob).cell? a = some v := by
  rw [((Below.refl w.heap.size w).alloc (Nat.le_refl _) ob).cell hb]; exact h

set_option maxHeartbeats 400000 in
/-- ZZdecoderUint where a number stands at the head. -/
theorem decU_ok (g o n c : Nat) (l : List UInt8) (w : World) (hl : l.length = n) (hn : n ≤ 1048600) (hr : Rd w (some ⟨g, o, none⟩) c l)
    (x k : Nat) (hx : (x : Int) ≤ 9223372036854775807) (hk : 0 < k) (hkn : k ≤ n) (hdec : Lib.uvarintDec l = (x, (k : Int))) :
    Calls Tryd.prog 9 #[.slice (some ⟨g, o, none⟩) n c] w fun e w' => ∃ ao c', e = .returned (.tuple #[.int .i64 x, .slice ao (n - k) c', .nilIface]) ∧ Rd w' ao c' (l.drop k) ∧ Below w.heap.size w w' := by
  have HD : Hid (Lib.uvarintDec l = (x, (k : Int))) := hdec
  have HL : Hid (l.length = n) := hl
  have HR : Hid (Rd w (some ⟨g, o, none⟩) c l) := hr
  clear hdec hl hr
  go_enter Tryd.func9, Tryd.ntmps9
  go_wp2_with fail
  refine (uint_ok w.heap.size g o n c l _ HL.out (by have := HR.out.cap; rw [HL.out] at this; exact this) hn (HR.out.cells _) (by simp) (by simp) x k hx hk hkn HD.out).mono ?_
  rintro e w1 ⟨rfl, ao, c', rfl, hcut⟩
  have HC : Hid (Cut g o c k ao c') := hcut
  clear hcut
  go_wp2
  go_quiet (fail)
  go_wp2
  go_ret3
  have hb := fresh_below w (.cells #[.slice ao (n - k) c', .nilIface, .string ⟨#[]⟩] 38) nq
  exact ⟨ao, c', rfl, (HR.out.cut (by rw [HL.out]; exact hkn) HC.out).below hb (Nat.le_refl _), hb⟩

set_option maxHeartbeats 400000 in
/-- ZZdecoderUint where none does. -/
theorem decU_bad (g o n c : Nat) (l : List UInt8) (T : TypeId) (u : Value) (w : World) (hl : l.length = n) (hr : Rd w (some ⟨g, o, none⟩) c l)
    (hg : w.cell? ⟨0, 0, none⟩ = some (.iface T u)) (h0 : 0 < w.heap.size)
    (x : Nat) (k : Int) (hx : k ≤ 0 ∨ 0 < k ∧ 9223372036854775807 < (x : Int)) (hdec : Lib.uvarintDec l = (x, k)) :
    Calls Tryd.prog 9 #[.slice (some ⟨g, o, none⟩) n c] w fun e w' => e = .returned (.tuple #[.int .i64 0, .slice none 0 0, .iface T u]) ∧ Below w.heap.size w w' := by
  have HD : Hid (Lib.uvarintDec l = (x, k)) := hdec
  have HL : Hid (l.length = n) := hl
  have HR : Hid (Rd w (some ⟨g, o, none⟩) c l) := hr
  have HG : Hid (∀ ob, (w.alloc ob).cell? ⟨0, 0, none⟩ = some (.iface T u)) := fun ob => old_cell hg ob h0
  clear hdec hl hr hg
  go_enter Tryd.func9, Tryd.ntmps9
  go_wp2_with fail
  refine (uint_bad w.heap.size g o n c l T u _ HL.out (HR.out.cells _) (by simp) (by simp) (by simp) (by simp) (HG.out _) x k hx HD.out).mono ?_
  rintro e w1 ⟨rfl, rfl⟩
  go_wp2
  go_quiet (fail)
  go_wp2
  go_ret3
  exact ⟨rfl, fresh_below w _ nq⟩

set_option maxHeartbeats 400000 in
/-- (*decoder).count where as many bytes follow. -/
theorem count_ok (p g o n c : Nat) (l : List UInt8) (w : World) (hl : l.length = n) (hnc : n ≤ c) (hn : n ≤ 1048600) (hcell : ∀ j (hj : j < l.length), w.cell? ⟨g, o + j, none⟩ = some (.int .u8 (l[j]).toNat))
    (hp : w.cell? ⟨p, 0, none⟩ = some (.slice (some ⟨g, o, none⟩) n c)) (hf : w.frozen? ⟨p, 0, none⟩ = false)
    (x k : Nat) (hx : x ≤ n - k) (hk : 0 < k) (hkn : k ≤ n) (hdec : Lib.uvarintDec l = (x, (k : Int))) :
    Calls Tryd.prog 16 #[.pointer (some ⟨p, 0, none⟩)] w fun e w' => e = .returned (.int .i64 x) ∧ ∃ ao c', w' = w.setCell ⟨p, 0, none⟩ (.slice ao (n - k) c') ∧ Cut g o c k ao c' := by
  have HD : Hid (Lib.uvarintDec l = (x, (k : Int))) := hdec
  have HL : Hid (l.length = n) := hl
  clear hdec hl
  go_enter Tryd.func16, Tryd.ntmps16
  go_wp2_with fail
  refine (uint_ok p g o n c l _ HL.out hnc hn hcell hp hf x k (by omega) hk hkn HD.out).mono ?_
  rintro e w1 ⟨rfl, ao, c', rfl, hcut⟩
  have HC : Hid (Cut g o c k ao c') := hcut
  clear hcut hcell
  go_wp2
  go_ret
  exact ⟨rfl, ao, c', rfl, HC.out⟩

set_option maxHeartbeats 400000 in
/-- (*decoder).count where fewer follow. -/
theorem count_short (p g o n c : Nat) (l : List UInt8) (T : TypeId) (u : Value) (w : World) (hl : l.length = n) (hnc : n ≤ c) (hn : n ≤ 1048600) (hcell : ∀ j (hj : j < l.length), w.cell? ⟨g, o + j, none⟩ = some (.int .u8 (l[j]).toNat))
    (hp : w.cell? ⟨p, 0, none⟩ = some (.slice (some ⟨g, o, none⟩) n c)) (hf : w.frozen? ⟨p, 0, none⟩ = false) (hp1 : w.cell? ⟨p, 1, none⟩ = some .nilIface) (hf1 : w.frozen? ⟨p, 1, none⟩ = false)
    (hg : w.cell? ⟨0, 0, none⟩ = some (.iface T u)) (hp0 : p ≠ 0)
    (x k : Nat) (hx : n - k < x) (hx2 : (x : Int) ≤ 9223372036854775807) (hk : 0 < k) (hkn : k ≤ n) (hdec : Lib.uvarintDec l = (x, (k : Int))) :
    Calls Tryd.prog 16 #[.pointer (some ⟨p, 0, none⟩)] w fun e w' => e = .returned (.int .i64 0) ∧ ∃ b, w' = ((w.setCell ⟨p, 0, none⟩ b).setCell ⟨p, 1, none⟩ (.iface T u)).setCell ⟨p, 0, none⟩ (.slice none 0 0) := by
  have HD : Hid (Lib.uvarintDec l = (x, (k : Int))) := hdec
  have HL : Hid (l.length = n) := hl
  clear hdec hl
  go_enter Tryd.func16, Tryd.ntmps16
  go_wp2_with fail
  refine (uint_ok p g o n c l _ HL.out hnc hn hcell hp hf x k hx2 hk hkn HD.out).mono ?_
  rintro e w1 ⟨rfl, ao, c', rfl, hcut⟩
  clear hcut hcell
  have f := fail_fresh p T u (.slice ao (n - k) c') (w.setCell ⟨p, 0, none⟩ (.slice ao (n - k) c')) (by simp [go_sem, hp]) (by simp [go_sem, hf]) (by simp [go_sem, hp1]) (by simp [go_sem, hf1])
  go_wp2_with (go_at_call 19; refine f.mono ?_; rintro e w2 ⟨rfl, rfl⟩)
  go_ret
  exact ⟨rfl, _, rfl⟩

set_option maxHeartbeats 400000 in
/-- ZZdecoderCount where as many bytes follow. -/
theorem decC_ok (g o n c : Nat) (l : List UInt8) (w : World) (hl : l.length = n) (hn : n ≤ 1048600) (hr : Rd w (some ⟨g, o, none⟩) c l)
    (x k : Nat) (hx : x ≤ n - k) (hk : 0 < k) (hkn : k ≤ n) (hdec : Lib.uvarintDec l = (x, (k : Int))) :
    Calls Tryd.prog 12 #[.slice (some ⟨g, o, none⟩) n c] w fun e w' => ∃ ao c', e = .returned (.tuple #[.int .i64 x, .slice ao (n - k) c', .nilIface]) ∧ Rd w' ao c' (l.drop k) ∧ Below w.heap.size w w' := by
  have HD : Hid (Lib.uvarintDec l = (x, (k : Int))) := hdec
  have HL : Hid (l.length = n) := hl
  have HR : Hid (Rd w (some ⟨g, o, none⟩) c l) := hr
  clear hdec hl hr
  go_enter Tryd.func12, Tryd.ntmps12
  go_wp2_with fail
  refine (count_ok w.heap.size g o n c l _ HL.out (by have := HR.out.cap; rw [HL.out] at this; exact this) hn (HR.out.cells _) (by simp) (by simp) x k hx hk hkn HD.out).mono ?_
  rintro e w1 ⟨rfl, ao, c', rfl, hcut⟩
  have HC : Hid (Cut g o c k ao c') := hcut
  clear hcut
  go_wp2
  go_quiet (fail)
  go_wp2
  go_ret3
  have hb := fresh_below w (.cells #[.slice ao (n - k) c', .nilIface, .string ⟨#[]⟩] 38) nq
  exact ⟨ao, c', rfl, (HR.out.cut (by rw [HL.out]; exact hkn) HC.out).below hb (Nat.le_refl _), hb⟩

set_option maxHeartbeats 400000 in
/-- ZZdecoderCount where fewer follow. -/
theorem decC_short (g o n c : Nat) (l : List UInt8) (T : TypeId) (u : Value) (w : World) (hl : l.length = n) (hn : n ≤ 1048600) (hr : Rd w (some ⟨g, o, none⟩) c l)
    (hg : w.cell? ⟨0, 0, none⟩ = some (.iface T u)) (h0 : 0 < w.heap.size)
    (x k : Nat) (hx : n - k < x) (hx2 : (x : Int) ≤ 9223372036854775807) (hk : 0 < k) (hkn : k ≤ n) (hdec : Lib.uvarintDec l = (x, (k : Int))) :
    Calls Tryd.prog 12 #[.slice (some ⟨g, o, none⟩) n c] w fun e w' => e = .returned (.tuple #[.int .i64 0, .slice none 0 0, .iface T u]) ∧ Below w.heap.size w w' := by
  have HD : Hid (Lib.uvarintDec l = (x, (k : Int))) := hdec
  have HL : Hid (l.length = n) := hl
  have HR : Hid (Rd w (some ⟨g, o, none⟩) c l) := hr
  have HG : Hid (∀ ob, (w.alloc ob).cell? ⟨0, 0, none⟩ = some (.iface T u)) := fun ob => old_cell hg ob h0
  clear hdec hl hr hg
  go_enter Tryd.func12, Tryd.ntmps12
  go_wp2_with fail
  refine (count_short w.heap.size g o n c l T u _ HL.out (by have := HR.out.cap; rw [HL.out] at this; exact this) hn (HR.out.cells _) (by simp) (by simp) (by simp) (by simp) (HG.out _) (by omega) x k hx hx2 hk hkn HD.out).mono ?_
  rintro e w1 ⟨rfl, b, rfl⟩
  go_wp2
  go_quiet (fail)
  go_wp2
  go_ret3
  exact ⟨rfl, fresh_below w _ nq⟩

end Go.Proofs.Qxb6603526aDoor
