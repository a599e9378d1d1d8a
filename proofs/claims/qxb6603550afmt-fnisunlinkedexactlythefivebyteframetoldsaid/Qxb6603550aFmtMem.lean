/-
  WHAT THE WALKS of seat b6603550aF SAY OF BYTES IN MEMORY.
-/
import Derived.WalkKit
import Derived.Lib.VarintMem
namespace Go.Proofs.Qxb6603550aFmt
open Go.RowKit

theorem hide {p : Prop} (h : p) : Hid p := h
theorem unhide {p : Prop} (h : Hid p) : p := h

/-- THE SLICE '.slice ao l.length c' READS AS THE BYTES l in the world w. -/
structure Rd (w : World) (ao : Option Addr) (c : Nat) (l : List UInt8) : Prop where
  nil : ao = none → l = [] ∧ c = 0
  cap : l.length ≤ c
  spot : ∀ a, ao = some a → a.spot = none ∧ a.block < w.heap.size
  cell : ∀ a, ao = some a → ∀ j (hj : j < l.length), w.cell? ⟨a.block, a.off + j, none⟩ = some (.int .u8 (l[j]).toNat)

theorem Rd.mkNil (w : World) : Rd w none 0 [] := ⟨fun _ => ⟨rfl, rfl⟩, Nat.le_refl _, fun _ h => by simp at h, fun _ h => by simp at h⟩

theorem Rd.below {w w' : World} {ao : Option Addr} {c : Nat} {l : List UInt8} (h : Rd w ao c l) {B : Nat} (hb : Below B w w') (hB : w.heap.size ≤ B) : Rd w' ao c l :=
  ⟨h.nil, h.cap, fun a ha => ⟨(h.spot a ha).1, Nat.lt_of_lt_of_le (h.spot a ha).2 hb.size⟩, fun a ha j hj => by
    rw [hb.cell (p := ⟨a.block, a.off + j, .none⟩) (Nat.lt_of_lt_of_le (h.spot a ha).2 hB)]; exact h.cell a ha j hj⟩

/-- Only the blocks up to the slice's own count. -/
theorem Rd.below' {w w' : World} {ao : Option Addr} {c : Nat} {l : List UInt8} (h : Rd w ao c l) {B : Nat} (hb : Below B w w') (hB : ∀ a, ao = some a → a.block < B) : Rd w' ao c l :=
  ⟨h.nil, h.cap, fun a ha => ⟨(h.spot a ha).1, Nat.lt_of_lt_of_le (h.spot a ha).2 hb.size⟩, fun a ha j hj => by
    rw [hb.cell (p := ⟨a.block, a.off + j, .none⟩) (hB a ha)]; exact h.cell a ha j hj⟩

/-- A store into another block. -/
theorem Rd.setCell {w : World} {ao : Option Addr} {c : Nat} {l : List UInt8} (h : Rd w ao c l) (p : Addr) (u : Value) (hp : ∀ a, ao = some a → a.block ≠ p.block) : Rd (w.setCell p u) ao c l :=
  ⟨h.nil, h.cap, fun a ha => ⟨(h.spot a ha).1, by have := (h.spot a ha).2; simpa [World.setCell] using this⟩, fun a ha j hj => by
    rw [World.cell?_of_block (w := w) (a := ⟨a.block, a.off + j, .none⟩) (Below.heap_setCell _ _ _ _ (hp a ha))]; exact h.cell a ha j hj⟩

/-- Where there is an element there is an address. -/
theorem Rd.addr {w : World} {ao : Option Addr} {c : Nat} {l : List UInt8} (h : Rd w ao c l) (hp : 0 < l.length) : ∃ g o, ao = some ⟨g, o, .none⟩ := by
  match ao, h with
  | .none, h => have := (h.nil rfl).1; subst this; simp at hp
  | .some ⟨g, o, s⟩, h => have := (h.spot _ rfl).1; simp at this; subst this; exact ⟨g, o, rfl⟩

theorem Rd.lt {w : World} {g o : Nat} {c : Nat} {l : List UInt8} (h : Rd w (.some ⟨g, o, .none⟩) c l) : g < w.heap.size := (h.spot _ rfl).2

/-- The slice without its first n. -/
theorem Rd.drop {w : World} {g o c n : Nat} {l : List UInt8} (h : Rd w (.some ⟨g, o, .none⟩) c l) (hn : n ≤ l.length) : Rd w (.some ⟨g, o + n, .none⟩) (c - n) (l.drop n) :=
  ⟨fun h => by simp at h, by have := h.cap; simp; omega, fun a ha => by simp at ha; subst ha; exact ⟨rfl, h.lt⟩, fun a ha j hj => by
    simp at ha; subst ha
    have hj' : n + j < l.length := by simp at hj; omega
    have := h.cell _ rfl (n + j) hj'
    simp only [List.getElem_drop]
    rw [← this, Nat.add_assoc]⟩

theorem lt_of_heap {w : World} {g : Nat} {o : Obj} (h : w.heap[g]? = some o) : g < w.heap.size := by
  by_cases hg : g < w.heap.size
  · exact hg
  · rw [Array.getElem?_eq_none (by omega)] at h; simp at h

/-- From an owned row. -/
theorem Rd.own {w : World} {B n : Nat} {v : Value} {l : List UInt8} (h : w.ownsRow B 5 1 v n (Lib.byteCells l)) :
    ∃ ao c, v = .slice ao l.length c ∧ n = l.length ∧ Rd w ao c l ∧ ∀ a, ao = some a → B ≤ a.block := by
  have hlen : n = l.length := by have := h.1; rw [Lib.byteCells_length] at this; omega
  subst hlen
  rcases h.2 with ⟨rfl, h0⟩ | ⟨g, cap, cur, rfl, hbg, hg, hnc, hcm, hcs, htake⟩
  · have : l = [] := List.eq_nil_of_length_eq_zero h0
    subst this
    exact ⟨.none, 0, rfl, rfl, Rd.mkNil _, fun _ h => by simp at h⟩
  · refine ⟨.some ⟨g, 0, .none⟩, cap, rfl, rfl, ⟨fun h => by simp at h, hnc, ?_, ?_⟩, ?_⟩
    · intro a ha; simp at ha; subst ha; exact ⟨rfl, lt_of_heap hg⟩
    · intro a ha j hj
      simp at ha; subst ha
      have := h.cellAt j (by omega)
      simp only [Nat.zero_add]
      rw [this]
      simp [Lib.byteCells, hj]
    · intro a ha; simp at ha; subst ha; exact hbg

theorem Rd.ofOwn {w : World} {B n g c : Nat} {l : List UInt8} (h : w.ownsRow B 5 1 (.slice (some ⟨g, 0, none⟩) n c) n (Lib.byteCells l)) : Rd w (some ⟨g, 0, none⟩) c l := by
  obtain ⟨ao, c', hv, hn, hr, _⟩ := Rd.own h
  simp only [Value.slice.injEq] at hv
  obtain ⟨rfl, _, rfl⟩ := hv
  exact hr

/-- What a row of N bytes holds when the bytes l are laid at its head. -/
def fill (l : List UInt8) (N : Nat) : List Value := Lib.byteCells l ++ List.replicate (N - l.length) (.int .u8 0)

theorem fill_nil (N : Nat) : fill [] N = List.replicate N (.int .u8 0) := by simp [fill, Lib.byteCells]
theorem fill_full (l : List UInt8) : fill l l.length = Lib.byteCells l := by simp [fill]
theorem fill_set (l : List UInt8) (N : Nat) (b : UInt8) (h : l.length < N) : (fill l N).set l.length (.int .u8 b.toNat) = fill (l ++ [b]) N := by
  obtain ⟨m, hm⟩ : ∃ m, N - l.length = m + 1 := ⟨N - l.length - 1, by omega⟩
  have hm' : N - (l ++ [b]).length = m := by simp; omega
  unfold fill
  rw [hm, hm', List.set_append, if_neg (by rw [Lib.byteCells_length]; omega), Lib.byteCells_length, Nat.sub_self, List.replicate_succ, List.set_cons_zero, Lib.byteCells_append]
  simp [Lib.byteCells]
theorem fill_take (l : List UInt8) (N k : Nat) (h : k < l.length) (hN : l.length ≤ N) : (fill (l.take k) N).set k (.int .u8 (l[k]).toNat) = fill (l.take (k + 1)) N := by
  have hk : (l.take k).length = k := by simp; omega
  have := fill_set (l.take k) N l[k] (by omega)
  rw [hk] at this
  rw [this, List.take_succ_eq_append_getElem h]
theorem fill_more (p l : List UInt8) (N k : Nat) (h : k < l.length) (hN : p.length + l.length ≤ N) : (fill (p ++ l.take k) N).set (p.length + k) (.int .u8 (l[k]).toNat) = fill (p ++ l.take (k + 1)) N := by
  have hk : (p ++ l.take k).length = p.length + k := by simp; omega
  have := fill_set (p ++ l.take k) N l[k] (by omega)
  rw [hk] at this
  rw [this, List.take_succ_eq_append_getElem h, List.append_assoc]

/-- A cell of an owned row is there. -/
theorem own_cell {w : World} {B g n : Nat} {xs : List Value} (h : w.ownsRow B 5 1 (.slice (some ⟨g, 0, none⟩) n n) n xs) (k : Nat) (hk : k < n) : ∃ u, w.cell? ⟨g, k, none⟩ = some u := by
  rw [h.cellAt k (by omega)]
  exact ⟨_, List.getElem?_eq_getElem (by rw [h.1]; omega)⟩

/-- What 'make' leaves. -/
theorem made_fill {w : World} {B n : Nat} {v : Value} (h : w.ownsRow B 5 1 v n (madeCells #[Value.int .u8 0] n).toList) : w.ownsRow B 5 1 v n (fill [] n) := by
  rw [fill_nil]
  rw [toList_madeCells_one (.int .u8 0) n] at h
  exact h

/-- One byte is copied behind those that lie there already. -/
theorem copy_step {w wr : World} {B N k : Nat} {pre l : List UInt8} (h : wr.ownsRow B 5 1 (.slice (some ⟨B, 0, none⟩) N N) N (fill (pre ++ l.take k) N)) (hb : Below B w wr) (hk : k < l.length) (hN : pre.length + l.length ≤ N) :
    wr.frozen? ⟨B, pre.length + k, none⟩ = false ∧ (∃ u, wr.cell? ⟨B, pre.length + k, none⟩ = some u) ∧
      (wr.setCell ⟨B, pre.length + k, none⟩ (.int .u8 (l[k]).toNat)).ownsRow B 5 1 (.slice (some ⟨B, 0, none⟩) N N) N (fill (pre ++ l.take (k + 1)) N) ∧ Below B w (wr.setCell ⟨B, pre.length + k, none⟩ (.int .u8 (l[k]).toNat)) := by
  have R := (h.stored (pre.length + k) (.int .u8 (l[k]).toNat)).1
  rw [fill_more pre l N k hk hN] at R
  exact ⟨h.frozenAt _, own_cell h _ (by omega), R, hb.setCell (p := ⟨B, pre.length + k, none⟩) (Nat.le_refl _) _⟩

theorem copy_step0 {w wr : World} {B N k : Nat} {l : List UInt8} (h : wr.ownsRow B 5 1 (.slice (some ⟨B, 0, none⟩) N N) N (fill (l.take k) N)) (hb : Below B w wr) (hk : k < l.length) (hN : l.length ≤ N) :
    wr.frozen? ⟨B, k, none⟩ = false ∧ (∃ u, wr.cell? ⟨B, k, none⟩ = some u) ∧
      (wr.setCell ⟨B, k, none⟩ (.int .u8 (l[k]).toNat)).ownsRow B 5 1 (.slice (some ⟨B, 0, none⟩) N N) N (fill (l.take (k + 1)) N) ∧ Below B w (wr.setCell ⟨B, k, none⟩ (.int .u8 (l[k]).toNat)) := by
  have R := (h.stored k (.int .u8 (l[k]).toNat)).1
  rw [fill_take l N k hk hN] at R
  exact ⟨h.frozenAt _, own_cell h _ (by omega), R, hb.setCell (p := ⟨B, k, none⟩) (Nat.le_refl _) _⟩

end Go.Proofs.Qxb6603550aFmt
