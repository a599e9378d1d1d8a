/-
  THE WALKS of seat b6603805a: zzClone32 (function 8), zzRising (function 7), zzIndexOf (function 10).
-/
import Derived.Test.Qxb6603805aRows
import Derived.Test.Qxb6603805aMem
import Derived.WalkSpells
import Derived.WalkLawsBesides
import Derived.Deep.QuietTactic
import Derived.BigQuiet
namespace Go.Proofs.Qxb6603805a
open Go.RowKit

theorem info21 : (Try.prog.info? 21).map (fun i => (i.zero, i.size, i.bytes)) = some (some (.int .i32 0), 1, 4) := by kernel_rfl
theorem q22 : ∀ (w : World) (a : Option Addr) (n c n' c' : Nat), (binOp .eql 22 (.slice a n c) (.slice none n' c')).run Try.prog w = .ok (.bool a.isNone) w :=
  fun w a n c n' c' => Lib.run_eql_slice_nil w _ _ a n c n' c' Try.underlying22

set_option maxHeartbeats 400000 in
theorem clone_nil (n c : Nat) (w : World) :
    Calls Try.prog 8 #[.slice none n c] w fun e w' => e = .returned (.slice none 0 0) ∧ w' = w := by
  have hn := q22
  go_enter Try.func8, Try.ntmps8
  go_wp2
  go_ret
  exact ⟨rfl, rfl⟩

set_option maxHeartbeats 400000 in
theorem clone_some (x : Addr) (l : List Int) (n c : Nat) (w : World) (hn : n ≤ 65536) (hl : l.length = n) (hr : Rd w (some x) l) :
    Calls Try.prog 8 #[.slice (some x) n c] w fun e w' => e = .returned (.slice (some ⟨w.heap.size, 0, none⟩) n n) ∧
      w'.ownsRow w.heap.size 21 1 (.slice (some ⟨w.heap.size, 0, none⟩) n n) n (cells l) ∧ Below w.heap.size w w' := by
  have hq := q22
  obtain ⟨i0, hi, hz0, hz1, hz2⟩ := info_parts info21
  have HL := hide hl
  have HR := hide hr
  clear hl hr
  go_enter Try.func8, Try.ntmps8
  go_wp2_with (at_make; refine wpList_make_full _ rfl _ _ 22 rfl w.heap.size 21 i0 (.int .i32 0) 1 Try.underlying22 hi hz0 hz1 .i64 .i64 _ _ n rfl rfl rfl rfl (by rw [hz2]; omega) (by unfold maxLen; omega) (Nat.le_refl _) ?_)
  intro w1 hown hgrow
  have hown1 := made_fill hown
  have hbel : Below w.heap.size w w1 := (Below.refl _ _).grown hgrow (Nat.le_refl _) (fun k hk => by simp at hk)
  clear hown hgrow hi hz0 hz1 hz2
  go_wp2
  go_loopw [4] (fun i wr => ∃ k : Nat, k ≤ n ∧ i = .int .i64 k ∧ wr.ownsRow w.heap.size 21 1 (.slice (some ⟨w.heap.size, 0, none⟩) n n) n (fill (l.take k) n) ∧ Below w.heap.size w wr) (fun i _ => n - (intOf i).toNat)
  case atStart => exact ⟨0, Nat.zero_le _, rfl, hown1, hbel⟩
  case round =>
    obtain ⟨k, hk, rfl, hown2, hb2⟩ := hrel
    clear hown1 hbel
    by_cases hlt : k < n
    · have hkl : k < l.length := by rw [HL.out]; exact hlt
      obtain ⟨b, off, he, hbl⟩ := HR.out.addr (by omega)
      obtain rfl := Option.some.inj he
      have c1 : wr.cell? ⟨b, off + k, none⟩ = some (.int .i32 l[k]) := (hb2.cell (by exact hbl)).trans (HR.out.cell _ rfl k hkl)
      obtain ⟨c2, ⟨u, c3⟩, R1, hb3⟩ := copy_step hown2 hb2 (Nat.le_refl _) hkl (by rw [HL.out]; omega)
      clear hown2 hb2 he
      go_wp2
      go_roundw
      case rel => exact ⟨k + 1, by omega, by go_num, R1, hb3⟩
      case measure => simp [intOf]; omega
    · go_wp2
      go_ret
      have : k = n := by omega
      subst this
      rw [List.take_of_length_le (by rw [HL.out]; omega)] at hown2
      have e := HL.out
      subst e
      rw [fill_full] at hown2
      exact ⟨rfl, hown2, hb2⟩

/-- zzClone32, whatever the slice. -/
theorem clone_any (a : Option Addr) (l : List Int) (n c : Nat) (w : World) (hn : n ≤ 65536) (hl : l.length = n) (hr : Rd w a l) :
    Calls Try.prog 8 #[.slice a n c] w fun e w' => ∃ ao c', e = .returned (.slice ao n c') ∧ Rd w' ao l ∧ Below w.heap.size w w' := by
  match a, hr with
  | none, hr =>
    have := hr.nil rfl
    subst this
    obtain rfl : n = 0 := hl.symm
    exact (clone_nil 0 c w).mono fun e w' ⟨he, hw⟩ => by subst hw; exact ⟨none, 0, he, Rd.mkNil _, Below.refl _ _⟩
  | some x, hr =>
    refine (clone_some x l n c w hn hl hr).mono fun e w' ⟨he, ho, hbel⟩ => ?_
    obtain ⟨ao, c', hv, _, h⟩ := Rd.own ho
    exact ⟨ao, c', by rw [he, hv], h, hbel⟩

set_option maxHeartbeats 400000 in
theorem rise_yes (a : Option Addr) (l : List Int) (n c : Nat) (w : World) (hn : n ≤ 65536) (hl : l.length = n) (hr : Rd w a l) (h : Plain.Rise l) :
    Calls Try.prog 7 #[.slice a n c] w fun e w' => e = .returned (.bool true) ∧ ∃ q, w' = w.drewN q := by
  have HL := hide hl
  have HR := hide hr
  have HH := hide h
  clear hl hr h
  go_enter Try.func7, Try.ntmps7
  go_wp2
  go_loopw [3] (fun i wr => ∃ k q : Nat, 1 ≤ k ∧ k ≤ n + 1 ∧ i = .int .i64 k ∧ wr = w.drewN q) (fun i _ => n + 1 - (intOf i).toNat)
  case atStart => exact ⟨1, 0, by omega, by omega, rfl, rfl⟩
  case round =>
    obtain ⟨k, q, hk1, hk, rfl, rfl⟩ := hrel
    by_cases hlt : k < n
    · obtain ⟨j, rfl⟩ : ∃ j, k = j + 1 := ⟨k - 1, by omega⟩
      have hkl : j + 1 < l.length := by rw [HL.out]; exact hlt
      obtain ⟨b, off, rfl, hbl⟩ := HR.out.addr (by omega)
      have e1 : w.cell? ⟨b, off + j, none⟩ = some (.int .i32 l[j]) := HR.out.cell _ rfl j (by omega)
      have e2 : w.cell? ⟨b, off + (j + 1), none⟩ = some (.int .i32 l[j + 1]) := HR.out.cell _ rfl (j + 1) hkl
      have e3 := HH.out j hkl
      go_wp2
      go_quiet (fail)
      go_wp2
      go_roundw
      case rel => exact ⟨j + 1 + 1, _, by omega, by omega, by go_num, rfl⟩
      case measure => simp [intOf]; omega
    · go_wp2
      go_ret
      exact ⟨rfl, q, rfl⟩

set_option maxHeartbeats 400000 in
theorem rise_no (a : Option Addr) (l : List Int) (n c : Nat) (w : World) (hn : n ≤ 65536) (hl : l.length = n) (hr : Rd w a l) (h : ¬ Plain.Rise l) :
    Calls Try.prog 7 #[.slice a n c] w fun e w' => e = .returned (.bool false) ∧ ∃ q, w' = w.drewN q := by
  have HL := hide hl
  have HR := hide hr
  have HH := hide h
  clear hl hr h
  go_enter Try.func7, Try.ntmps7
  go_wp2
  go_loopw [3] (fun i wr => ∃ k q : Nat, 1 ≤ k ∧ i = .int .i64 k ∧ wr = w.drewN q ∧ k ≤ n + 1 ∧ Hid (∀ j (h : j + 1 < l.length), j + 1 < k → l[j] < l[j + 1])) (fun i _ => n + 1 - (intOf i).toNat)
  case atStart => exact ⟨1, 0, by omega, rfl, rfl, by omega, fun j _ h => by omega⟩
  case round =>
    obtain ⟨k, q, hk1, rfl, rfl, hk, hall⟩ := hrel
    by_cases hlt : k < n
    · obtain ⟨j, rfl⟩ : ∃ j, k = j + 1 := ⟨k - 1, by omega⟩
      have hkl : j + 1 < l.length := by rw [HL.out]; exact hlt
      obtain ⟨b, off, rfl, hbl⟩ := HR.out.addr (by omega)
      have e1 : w.cell? ⟨b, off + j, none⟩ = some (.int .i32 l[j]) := HR.out.cell _ rfl j (by omega)
      have e2 : w.cell? ⟨b, off + (j + 1), none⟩ = some (.int .i32 l[j + 1]) := HR.out.cell _ rfl (j + 1) hkl
      by_cases e3 : l[j] < l[j + 1]
      · have hall2 : Hid (∀ i (h : i + 1 < l.length), i + 1 < j + 1 + 1 → l[i] < l[i + 1]) := by
          intro i h hi
          by_cases he : i = j
          · subst he; exact e3
          · exact hall.out i h (by omega)
        clear hall
        go_wp2
        go_quiet (fail)
        go_wp2
        go_roundw
        case rel => exact ⟨j + 1 + 1, _, by omega, by go_num, rfl, by omega, hall2⟩
        case measure => simp [intOf]; omega
      · clear hall
        have e4 : l[j + 1] ≤ l[j] := by omega
        clear e3
        go_wp2
        go_quiet (fail)
        go_wp2
        go_ret
        exact ⟨rfl, q + nq, by simp⟩
    · exfalso
      exact HH.out fun j h => hall.out j h (by have := HL.out; omega)

/-- Where the search stands: what lies before lo is below x, what lies from hi on is not. -/
def Near (l : List Int) (x : Int) (lo hi : Nat) : Prop := (∀ i (_ : i < lo) (h : i < l.length), l[i] < x) ∧ (∀ i (_ : hi ≤ i) (h : i < l.length), x ≤ l[i])

theorem near_low {l : List Int} {x : Int} {lo hi m : Nat} (hr : Plain.Rise l) (h : Near l x lo hi) (hm : m < l.length) (hlt : l[m] < x) : Near l x (m + 1) hi :=
  ⟨fun i hi' hl => by
    by_cases e : i = m
    · subst e; exact hlt
    · have := hr.mono (show i < m by omega) hm; omega, h.2⟩
theorem near_high {l : List Int} {x : Int} {lo hi m : Nat} (hr : Plain.Rise l) (h : Near l x lo hi) (hm : m < l.length) (hlt : x ≤ l[m]) : Near l x lo m :=
  ⟨h.1, fun i hi' hl => by
    by_cases e : i = m
    · subst e; exact hlt
    · have := hr.mono (show m < i by omega) hl; omega⟩
theorem near_found {l : List Int} {x : Int} {lo : Nat} (hlo : lo < l.length) (he : l[lo] = x) : Plain.Found l x (lo : Int) := .inl ⟨lo, hlo, he, rfl⟩
theorem near_miss {l : List Int} {x : Int} {lo : Nat} (hr : Plain.Rise l) (h : Near l x lo lo) (hn : ∀ hlo : lo < l.length, l[lo] ≠ x) : Plain.Found l x (-1) := by
  refine .inr ⟨fun i hi e => ?_, rfl⟩
  rcases Nat.lt_trichotomy i lo with h1 | h1 | h1
  · have := h.1 i h1 hi; omega
  · subst h1; exact hn hi e
  · have h2 := h.2 lo (Nat.le_refl _) (by omega)
    have h3 := hr.mono h1 hi
    omega

set_option maxHeartbeats 400000 in
/-- zzIndexOf over a rising slice. -/
theorem index_any (a : Option Addr) (l : List Int) (n c : Nat) (x : Int) (w : World) (hn : n ≤ 65536) (hl : l.length = n) (hr : Rd w a l) (hrise : Plain.Rise l) :
    Calls Try.prog 10 #[.slice a n c, .int .i32 x] w fun e w' => w' = w ∧ ∃ r, e = .returned (.int .i64 r) ∧ Plain.Found l x r := by
  have HL := hide hl
  have HR := hide hr
  have HH := hide hrise
  clear hl hr hrise
  go_enter Try.func10, Try.ntmps10
  go_wp2
  go_loop [5, 6] (fun vlo vhi => ∃ lo hi : Nat, vlo = .int .i64 lo ∧ vhi = .int .i64 hi ∧ lo ≤ hi ∧ hi ≤ n ∧ Hid (Near l x lo hi)) (fun vlo vhi => (intOf vhi - intOf vlo).toNat)
  case atStart => exact ⟨0, n, rfl, rfl, Nat.zero_le _, Nat.le_refl _, ⟨fun i h _ => by omega, fun i h hl => by have := HL.out; omega⟩⟩
  case round =>
    obtain ⟨lo, hi, rfl, rfl, hle, hhi, hnear⟩ := hrel
    by_cases hlt : lo < hi
    · obtain ⟨m, hm⟩ : ∃ m, m = lo + (hi - lo) / 2 := ⟨_, rfl⟩
      have hml : lo ≤ m := by omega
      have hmh : m < hi := by omega
      have hmn : m < l.length := by rw [HL.out]; omega
      have hmi : (lo : Int) + ((hi : Int) - (lo : Int)) / 2 = (m : Int) := by omega
      have HM := hide hm
      clear hm
      obtain ⟨b, off, rfl, hbl⟩ := HR.out.addr (by omega)
      have e1 : w.cell? ⟨b, off + m, none⟩ = some (.int .i32 l[m]) := HR.out.cell _ rfl m hmn
      by_cases hx : l[m] < x
      · have hnear2 := hide (near_low HH.out hnear.out hmn hx)
        clear hnear
        go_wp2
        exact ⟨⟨m + 1, hi, by go_num, rfl, by omega, hhi, hnear2⟩, by simp [intOf]; omega⟩
      · have hx2 : x ≤ l[m] := by omega
        have hnear2 := hide (near_high HH.out hnear.out hmn hx2)
        clear hnear hx
        go_wp2
        exact ⟨⟨lo, m, rfl, rfl, hml, by omega, hnear2⟩, by simp [intOf]; omega⟩
    · obtain rfl : lo = hi := by omega
      clear hlt hle
      by_cases h1 : lo < n
      · have hlo : lo < l.length := by rw [HL.out]; exact h1
        obtain ⟨b, off, rfl, hbl⟩ := HR.out.addr (by omega)
        have e1 : w.cell? ⟨b, off + lo, none⟩ = some (.int .i32 l[lo]) := HR.out.cell _ rfl lo hlo
        by_cases hx : l[lo] = x
        · have HF := hide (near_found hlo hx)
          have hxb : (l[lo] == x) = true := by simpa using hx
          clear hnear hx
          go_wp2
          go_ret
          exact ⟨rfl, _, rfl, HF.out⟩
        · have HF := hide (near_miss HH.out hnear.out fun _ => hx)
          have hxb : (l[lo] == x) = false := by simpa using hx
          clear hnear hx
          go_wp2
          go_ret
          exact ⟨rfl, _, rfl, HF.out⟩
      · have HF := hide (near_miss HH.out hnear.out fun h => by have := HL.out; omega)
        clear hnear
        go_wp2
        go_ret
        exact ⟨rfl, _, rfl, HF.out⟩

end Go.Proofs.Qxb6603805a
