/-
  ZZComponents: the rows of dependencies that she lays.
-/
import Derived.Test.Qxb6603228aComp
namespace Go.Proofs.Qxb6603228a
open Go.RowKit Tj

theorem info47 : (Try.prog.info? 47).map (fun i => (i.zero, i.size, i.bytes)) = some (some (.slice none 0 0), 1, 24) := by kernel_rfl

/-- A dependency's zero. -/
def depZero : Array Value := #[.int .i64 0, .int .i64 0, .string ByteArray.empty, .bool false]
theorem info49 : (Try.prog.info? 49).map (fun i => (i.zero, i.size, i.bytes)) = some (some (.agg depZero), 4, 40) := by kernel_rfl

theorem make47 (m : Nat) (hm : m ≤ 1048576) (w : World) : (Instr.makeSlice 47 (.int .i64 (m : Int)) (.int .i64 (m : Int))).run Try.prog w = .ok (.slice (some ⟨w.heap.size, 0, none⟩) m m) (w.alloc (.cells (madeCells depZero (m * 4)) 49)) := by
  obtain ⟨i, hi, hz, hs, hb⟩ := info_parts info49
  have h := run_make w 47 49 i (.agg depZero) Try.underlying47 hi hz .i64 .i64 m m (by omega) (Int.le_refl _) (by rw [hb]; omega) (by omega)
  rw [Int.toNat_natCast, hs] at h
  exact h

/-- The slice value u holds the edges to l. -/
def DepAt (w : World) (S : Nat → Prop) (u : Value) (l : List Nat) : Prop :=
  ∃ au cu, u = .slice au l.length cu ∧ (0 < l.length → ∃ b2 off2, au = some ⟨b2, off2, none⟩ ∧ S b2 ∧ ∀ k, k < l.length → w.cell? ⟨b2, off2 + k * 4 + 1, none⟩ = some (.int .i64 (l.getD k 0 : Nat)))

theorem DepAt.keep {w w' : World} {S S' : Nat → Prop} {u : Value} {l : List Nat} (h : DepAt w S u l) (hk : ∀ b, S b → w'.heap[b]? = w.heap[b]?) (hs : ∀ b, S b → S' b) : DepAt w' S' u l := by
  obtain ⟨a, cap, rfl, r⟩ := h
  refine ⟨a, cap, rfl, fun h0 => ?_⟩
  obtain ⟨b, off, ha, hS, hc⟩ := r h0
  exact ⟨b, off, ha, hs b hS, fun j hj => (World.cell?_of_block (w := w) (a := ⟨b, off + j * 4 + 1, none⟩) (hk b hS)).trans (hc j hj)⟩

structure Deps (w : World) (n : Nat) (Z : List (List Int)) (r : Nat) (wr : World) : Prop where
  row : ∃ F : Nat → Value, wr.rowIs w.heap.size 47 n F ∧ (∀ i, i < r → DepAt wr (fun b => w.heap.size < b ∧ b < wr.heap.size) (F i) (graph Z i)) ∧ ∀ i, r ≤ i → F i = .slice none 0 0
  below : Below w.heap.size w wr

theorem Deps.start (w : World) (n : Nat) (Z : List (List Int)) : Deps w n Z 0 (w.alloc (.cells (madeCells #[.slice none 0 0] n) 47)) :=
  ⟨⟨_, World.rowIs_made _ _ _ _, fun i hi => by omega, fun _ _ => rfl⟩, (Below.refl _ _).alloc (Nat.le_refl _) _⟩

theorem Deps.skip {w wr : World} {n r : Nat} {Z : List (List Int)} (h : Deps w n Z r wr) (h0 : (Z.getD r []).length = 0) : Deps w n Z (r + 1) wr := by
  obtain ⟨⟨F, hF, hrows, hnil⟩, hbel⟩ := h
  refine ⟨⟨F, hF, fun i hi => ?_, fun i hi => hnil i (by omega)⟩, hbel⟩
  by_cases e : i = r
  · subst e
    have e0 : (graph Z i).length = 0 := by simp only [graph, List.length_map]; exact h0
    exact ⟨none, 0, by rw [hnil i (Nat.le_refl _), e0], fun h1 => by omega⟩
  · exact hrows i (by omega)

theorem Deps.step {w wr w1 : World} {n r : Nat} {Z : List (List Int)} {u : Value} (h : Deps w n Z r wr) (hlt : w.heap.size < wr.heap.size) (hb : Below wr.heap.size wr w1) (hu : DepAt w1 (fun b => wr.heap.size ≤ b ∧ b < w1.heap.size) u (graph Z r)) :
    Deps w n Z (r + 1) (w1.setCell ⟨w.heap.size, r, none⟩ u) := by
  obtain ⟨⟨F, hF, hrows, hnil⟩, hbel⟩ := h
  have hsz : (w1.setCell ⟨w.heap.size, r, none⟩ u).heap.size = w1.heap.size := by simp [World.setCell]
  have hs1 := hb.size
  have hF1 : w1.rowIs w.heap.size 47 n F := hF.of_block (hb.block _ hlt)
  refine ⟨⟨_, hF1.set r u, fun i hi => ?_, fun i hi => ?_⟩, (hbel.trans (hb.mono (by omega))).setCell (Nat.le_refl _) _⟩
  · show DepAt _ _ (if i = r then u else F i) _
    by_cases e : i = r
    · subst e
      rw [if_pos rfl]
      exact hu.keep (fun b hb' => Below.heap_setCell _ _ _ _ (by show b ≠ w.heap.size; omega)) (fun b hb' => ⟨by omega, by rw [hsz]; exact hb'.2⟩)
    · rw [if_neg e]
      refine (hrows i (by omega)).keep (fun b hb' => ?_) (fun b hb' => ⟨hb'.1, by rw [hsz]; omega⟩)
      rw [Below.heap_setCell _ _ _ _ (by show b ≠ w.heap.size; omega)]
      exact hb.block b hb'.2
  · show (if i = r then u else F i) = _
    rw [if_neg (by omega)]
    exact hnil i (by omega)

/-- The row of dependencies in the making. -/
def Making (wr : World) (m : Nat) (xs : List Int) (i : Nat) (wq : World) : Prop :=
  ∃ g : Nat → Value, wq.rowIs wr.heap.size 49 (m * 4) g ∧ (∀ k, k < i → g (k * 4 + 1) = .int .i64 (xs.getD k 0)) ∧ Below wr.heap.size wr wq

theorem Making.start (wr : World) (m : Nat) (xs : List Int) : Making wr m xs 0 (wr.alloc (.cells (madeCells depZero (m * 4)) 49)) := by
  have h := World.rowIs_alloc wr (madeCells depZero (m * 4)) 49 (fun i => depZero[i % depZero.size]!) (fun i hi => by
    rw [size_madeCells] at hi
    simp [madeCells, hi])
  rw [size_madeCells] at h
  exact ⟨_, h, fun k hk => by omega, (Below.refl _ _).alloc (Nat.le_refl _) _⟩

theorem Making.step {wr wq : World} {m i : Nat} {xs : List Int} (h : Making wr m xs i wq) (a b c : Value) :
    Making wr m xs (i + 1) ((((wq.setCell ⟨wr.heap.size, i * 4, none⟩ a).setCell ⟨wr.heap.size, i * 4 + 1, none⟩ (.int .i64 (xs.getD i 0))).setCell ⟨wr.heap.size, i * 4 + 2, none⟩ b).setCell ⟨wr.heap.size, i * 4 + 3, none⟩ c) := by
  obtain ⟨g, hg, hk, hb⟩ := h
  refine ⟨_, (((hg.set _ _).set _ _).set _ _).set _ _, fun k hki => ?_, (((hb.setCell (Nat.le_refl _) _).setCell (Nat.le_refl _) _).setCell (Nat.le_refl _) _).setCell (Nat.le_refl _) _⟩
  by_cases e : k = i
  · subst e
    simp
  · have h1 : ¬ k * 4 + 1 = i * 4 + 3 := by omega
    have h2 : ¬ k * 4 + 1 = i * 4 + 2 := by omega
    have h3 : ¬ k * 4 + 1 = i * 4 + 1 := by omega
    have h4 : ¬ k * 4 + 1 = i * 4 := by omega
    simp only [h1, h2, h3, h4, if_false]
    exact hk k (by omega)

/-- .. once it is whole. -/
theorem Making.done {wr wq : World} {Z : List (List Int)} {u m i : Nat} {S : Nat → Prop} (h : Making wr m (Z.getD u []) i wq) (hm : m = (Z.getD u []).length) (hi : m ≤ i) (hir : InRange Z) (hu : u < Z.length) (hS : S wr.heap.size) : DepAt wq S (.slice (some ⟨wr.heap.size, 0, none⟩) m m) (graph Z u) := by
  obtain ⟨g, hg, hk, hb⟩ := h
  have e : (graph Z u).length = m := by simp only [graph, List.length_map]; exact hm.symm
  refine ⟨_, _, by rw [e], fun _ => ⟨_, 0, rfl, hS, fun k hkl => ?_⟩⟩
  rw [e] at hkl
  rw [Nat.zero_add, hg.cell (by omega), hk k (by omega)]
  have h1 := hir u hu k (by omega)
  have e2 : ∀ (xs : List Int), k < xs.length → 0 ≤ xs.getD k 0 → (((xs.map Int.toNat).getD k 0 : Nat) : Int) = xs.getD k 0 := by
    intro xs hk2 h2
    simp only [List.getD_eq_getElem?_getD, List.getElem?_map, List.getElem?_eq_getElem hk2, Option.map_some, Option.getD_some] at h2 ⊢
    omega
  exact congrArg (fun z => some (Value.int .i64 z)) (e2 _ (by omega) h1.1).symm

theorem Deps.out {w wr : World} {n : Nat} {Z : List (List Int)} (h : Deps w n Z n wr) : OutAt wr (Lt wr.heap.size) (.slice (some ⟨w.heap.size, 0, none⟩) n n) (graph Z) n := by
  obtain ⟨⟨F, hF, hrows, _⟩, hbel⟩ := h
  refine ⟨_, _, rfl, fun _ => ⟨w.heap.size, 0, rfl, hF.lt, fun u hu => ?_⟩⟩
  obtain ⟨au, cu, h1, h2⟩ := hrows u hu
  refine ⟨au, cu, by rw [Nat.zero_add, hF.cell hu, h1], fun h0 => ?_⟩
  obtain ⟨b2, off2, h3, h4, h5⟩ := h2 h0
  exact ⟨b2, off2, h3, h4.2, h5⟩
end Go.Proofs.Qxb6603228a
