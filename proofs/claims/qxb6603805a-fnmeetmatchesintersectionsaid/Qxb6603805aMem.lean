/-
  WHAT THE WALKS of seat b6603805a SAY OF MEMORY: slices of int32, slices of ticks.
-/
import Derived.Test.Qxb6603805aPlain
import Derived.WalkKit
namespace Go.Proofs.Qxb6603805a
open Go.RowKit

theorem hide {p : Prop} (h : p) : Hid p := h

/-- THE SLICE '.slice ao l.length c' READS AS THE NUMBERS l in the world w. Of an empty slice's address nothing is known. -/
structure Rd (w : World) (ao : Option Addr) (l : List Int) : Prop where
  nil : ao = none → l = []
  spot : ∀ a, ao = some a → 0 < l.length → a.spot = none ∧ a.block < w.heap.size
  cell : ∀ a, ao = some a → ∀ j (hj : j < l.length), w.cell? ⟨a.block, a.off + j, none⟩ = some (.int .i32 l[j])

theorem Rd.below {w w' : World} {ao : Option Addr} {l : List Int} (h : Rd w ao l) {B : Nat} (hb : Below B w w') (hB : w.heap.size ≤ B) : Rd w' ao l :=
  ⟨h.nil, fun a ha hp => ⟨(h.spot a ha hp).1, Nat.lt_of_lt_of_le (h.spot a ha hp).2 hb.size⟩, fun a ha j hj => by
    rw [hb.cell (p := ⟨a.block, a.off + j, none⟩) (Nat.lt_of_lt_of_le (h.spot a ha (by omega)).2 hB)]; exact h.cell a ha j hj⟩

theorem Rd.addr {w : World} {ao : Option Addr} {l : List Int} (h : Rd w ao l) (hp : 0 < l.length) : ∃ g o, ao = some ⟨g, o, none⟩ ∧ g < w.heap.size := by
  match ao, h with
  | none, h => have := h.nil rfl; subst this; simp at hp
  | some ⟨g, o, s⟩, h => have := h.spot _ rfl hp; simp at this; obtain ⟨rfl, h2⟩ := this; exact ⟨g, o, rfl, h2⟩

theorem Rd.mkNil (w : World) : Rd w none [] := ⟨fun _ => rfl, fun _ h => by simp at h, fun _ h => by simp at h⟩

theorem lt_of_heap {w : World} {g : Nat} {o : Obj} (h : w.heap[g]? = some o) : g < w.heap.size := by
  by_cases hg : g < w.heap.size
  · exact hg
  · rw [Array.getElem?_eq_none (by omega)] at h; simp at h

/-- Numbers as cells. -/
def cells (l : List Int) : List Value := l.map (Value.int .i32)
theorem cells_length (l : List Int) : (cells l).length = l.length := by simp [cells]

/-- From an owned row. -/
theorem Rd.own {w : World} {B n : Nat} {v : Value} {l : List Int} (h : w.ownsRow B 21 1 v n (cells l)) : ∃ ao c, v = .slice ao n c ∧ n = l.length ∧ Rd w ao l := by
  have hlen : n = l.length := by have := h.1; rw [cells_length] at this; omega
  subst hlen
  rcases h.2 with ⟨rfl, h0⟩ | ⟨g, cap, cur, rfl, hbg, hg, hnc, hcm, hcs, htake⟩
  · have : l = [] := List.eq_nil_of_length_eq_zero h0
    subst this
    exact ⟨none, 0, rfl, rfl, Rd.mkNil _⟩
  · refine ⟨some ⟨g, 0, none⟩, cap, rfl, rfl, ⟨fun h => by simp at h, ?_, ?_⟩⟩
    · intro a ha _; simp at ha; subst ha; exact ⟨rfl, lt_of_heap hg⟩
    · intro a ha j hj
      simp at ha; subst ha
      have := h.cellAt j (by omega)
      simp only [Nat.zero_add]
      rw [this]
      simp [cells, hj]

/-- What a row of N numbers holds when the numbers l are laid at its head. -/
def fill (l : List Int) (N : Nat) : List Value := cells l ++ List.replicate (N - l.length) (.int .i32 0)
theorem fill_nil (N : Nat) : fill [] N = List.replicate N (.int .i32 0) := by simp [fill, cells]
theorem fill_full (l : List Int) : fill l l.length = cells l := by simp [fill]
theorem fill_set (l : List Int) (N : Nat) (b : Int) (h : l.length < N) : (fill l N).set l.length (.int .i32 b) = fill (l ++ [b]) N := by
  obtain ⟨m, hm⟩ : ∃ m, N - l.length = m + 1 := ⟨N - l.length - 1, by omega⟩
  have hm' : N - (l ++ [b]).length = m := by simp; omega
  unfold fill
  rw [hm, hm', List.set_append, if_neg (by rw [cells_length]; omega), cells_length, Nat.sub_self, List.replicate_succ, List.set_cons_zero]
  simp [cells]
theorem fill_take (l : List Int) (N k : Nat) (h : k < l.length) (hN : l.length ≤ N) : (fill (l.take k) N).set k (.int .i32 l[k]) = fill (l.take (k + 1)) N := by
  have hk : (l.take k).length = k := by simp; omega
  have := fill_set (l.take k) N l[k] (by omega)
  rw [hk] at this
  rw [this, List.take_succ_eq_append_getElem h]

theorem own_cell {w : World} {B g n : Nat} {xs : List Value} (h : w.ownsRow B 21 1 (.slice (some ⟨g, 0, none⟩) n n) n xs) (k : Nat) (hk : k < n) : ∃ u, w.cell? ⟨g, k, none⟩ = some u := by
  rw [h.cellAt k (by omega)]
  exact ⟨_, List.getElem?_eq_getElem (by rw [h.1]; omega)⟩

theorem made_fill {w : World} {B n : Nat} {v : Value} (h : w.ownsRow B 21 1 v n (madeCells #[Value.int .i32 0] n).toList) : w.ownsRow B 21 1 v n (fill [] n) := by
  rw [fill_nil]
  rw [toList_madeCells_one (.int .i32 0) n] at h
  exact h

/-- One number is copied behind those that lie there already; the row is block g, one of the call's own. -/
theorem copy_step {w wr : World} {B g N k : Nat} {l : List Int} (h : wr.ownsRow B 21 1 (.slice (some ⟨g, 0, none⟩) N N) N (fill (l.take k) N)) (hb : Below B w wr) (hg : B ≤ g) (hk : k < l.length) (hN : l.length ≤ N) :
    wr.frozen? ⟨g, k, none⟩ = false ∧ (∃ u, wr.cell? ⟨g, k, none⟩ = some u) ∧
      (wr.setCell ⟨g, k, none⟩ (.int .i32 l[k])).ownsRow B 21 1 (.slice (some ⟨g, 0, none⟩) N N) N (fill (l.take (k + 1)) N) ∧ Below B w (wr.setCell ⟨g, k, none⟩ (.int .i32 l[k])) := by
  have R := (h.stored k (.int .i32 l[k])).1
  rw [fill_take l N k hk hN] at R
  exact ⟨h.frozenAt _, own_cell h _ (by omega), R, hb.setCell (p := ⟨g, k, none⟩) hg _⟩

/-! ### Ticks: two cells each -/
/-- A clock as cells. -/
def ticks (C : List (Int × Int)) : List Value := C.flatMap fun x => [.int .i32 x.1, .int .i32 x.2]
theorem ticks_nil : ticks [] = [] := rfl
theorem ticks_cons (x : Int × Int) (C : List (Int × Int)) : ticks (x :: C) = .int .i32 x.1 :: .int .i32 x.2 :: ticks C := by simp [ticks]
theorem ticks_append (C D : List (Int × Int)) : ticks (C ++ D) = ticks C ++ ticks D := by simp [ticks]
theorem ticks_length : ∀ (C : List (Int × Int)), (ticks C).length = C.length * 2
  | [] => rfl
  | x :: C => by rw [ticks_cons]; simp [ticks_length C]; omega
theorem ticks_fst : ∀ (C : List (Int × Int)) (i : Nat) (h : i < C.length), (ticks C)[i * 2]? = some (.int .i32 C[i].1)
  | x :: C, 0, _ => by simp [ticks_cons]
  | x :: C, i + 1, h => by
    rw [ticks_cons, show (i + 1) * 2 = i * 2 + 1 + 1 by omega]
    simpa using ticks_fst C i (by simpa using h)
theorem ticks_snd : ∀ (C : List (Int × Int)) (i : Nat) (h : i < C.length), (ticks C)[i * 2 + 1]? = some (.int .i32 C[i].2)
  | x :: C, 0, _ => by simp [ticks_cons]
  | x :: C, i + 1, h => by
    rw [ticks_cons, show (i + 1) * 2 + 1 = i * 2 + 1 + 1 + 1 by omega]
    simpa using ticks_snd C i (by simpa using h)

/-- THE SLICE OF TICKS '.slice ao C.length c' READS AS THE CLOCK C in the world w. -/
structure Rt (w : World) (ao : Option Addr) (C : List (Int × Int)) : Prop where
  nil : ao = none → C = []
  spot : ∀ a, ao = some a → a.spot = none ∧ a.off = 0 ∧ a.block < w.heap.size
  fst : ∀ a, ao = some a → ∀ j (hj : j < C.length), w.cell? ⟨a.block, j * 2, none⟩ = some (.int .i32 C[j].1)
  snd : ∀ a, ao = some a → ∀ j (hj : j < C.length), w.cell? ⟨a.block, j * 2 + 1, none⟩ = some (.int .i32 C[j].2)

theorem Rt.below {w w' : World} {ao : Option Addr} {C : List (Int × Int)} (h : Rt w ao C) {B : Nat} (hb : Below B w w') (hB : w.heap.size ≤ B) : Rt w' ao C :=
  ⟨h.nil, fun a ha => ⟨(h.spot a ha).1, (h.spot a ha).2.1, Nat.lt_of_lt_of_le (h.spot a ha).2.2 hb.size⟩,
    fun a ha j hj => by rw [hb.cell (p := ⟨a.block, j * 2, none⟩) (Nat.lt_of_lt_of_le (h.spot a ha).2.2 hB)]; exact h.fst a ha j hj,
    fun a ha j hj => by rw [hb.cell (p := ⟨a.block, j * 2 + 1, none⟩) (Nat.lt_of_lt_of_le (h.spot a ha).2.2 hB)]; exact h.snd a ha j hj⟩

theorem Rt.addr {w : World} {ao : Option Addr} {C : List (Int × Int)} (h : Rt w ao C) (hp : 0 < C.length) : ∃ g, ao = some ⟨g, 0, none⟩ ∧ g < w.heap.size := by
  match ao, h with
  | none, h => have := h.nil rfl; subst this; simp at hp
  | some ⟨g, o, s⟩, h => have := h.spot _ rfl; simp at this; obtain ⟨rfl, rfl, h2⟩ := this; exact ⟨g, rfl, h2⟩

theorem Rt.mkNil (w : World) : Rt w none [] := ⟨fun _ => rfl, fun _ h => by simp at h, fun _ h => by simp at h, fun _ h => by simp at h⟩

theorem Rt.own {w : World} {B n : Nat} {v : Value} {C : List (Int × Int)} (h : w.ownsRow B 42 2 v n (ticks C)) : ∃ ao c, v = .slice ao n c ∧ n = C.length ∧ Rt w ao C := by
  have hlen : n = C.length := by have := h.1; rw [ticks_length] at this; omega
  subst hlen
  rcases h.2 with ⟨rfl, h0⟩ | ⟨g, cap, cur, rfl, hbg, hg, hnc, hcm, hcs, htake⟩
  · have : C = [] := List.eq_nil_of_length_eq_zero h0
    subst this
    exact ⟨none, 0, rfl, rfl, Rt.mkNil _⟩
  · refine ⟨some ⟨g, 0, none⟩, cap, rfl, rfl, ⟨fun h => by simp at h, ?_, ?_, ?_⟩⟩
    · intro a ha; simp at ha; subst ha; exact ⟨rfl, rfl, lt_of_heap hg⟩
    · intro a ha j hj
      simp at ha; subst ha
      rw [h.cellAt (j * 2) (by omega), ticks_fst C j hj]
    · intro a ha j hj
      simp at ha; subst ha
      rw [h.cellAt (j * 2 + 1) (by omega), ticks_snd C j hj]

end Go.Proofs.Qxb6603805a
