/-
  The copies of the graph.
-/
import Derived.Test.Qxb6603228aGuards
namespace Go.Proofs.Qxb6603228a
open Go.RowKit

theorem nil29 (w : World) (a : Option Addr) (n c n' c' : Nat) : (binOp .eql 29 (.slice a n c) (.slice none n' c')).run Try.prog w = .ok (.bool a.isNone) w := Lib.run_eql_slice_nil w _ _ a n c n' c' Try.underlying29
theorem nil22 (w : World) (a : Option Addr) (n c n' c' : Nat) : (binOp .eql 22 (.slice a n c) (.slice none n' c')).run Try.prog w = .ok (.bool a.isNone) w := Lib.run_eql_slice_nil w _ _ a n c n' c' Try.underlying22

/-- The first m places of xs, zeros behind. -/
def half (xs : List Int) (m : Nat) (i : Nat) : Value := .int .i64 (if i < m then xs.getD i 0 else 0)

theorem half_step {wr : World} {N len m : Nat} {xs : List Int} (h : wr.rowIs N 3 len (half xs m)) : (wr.setCell ⟨N, m, none⟩ (.int .i64 (xs.getD m 0))).rowIs N 3 len (half xs (m + 1)) :=
  (h.set m _).congr fun i hi => by
    unfold half
    by_cases e : i = m
    · subst e; rw [if_pos rfl, if_pos (by omega)]
    · rw [if_neg e]
      by_cases e2 : i < m
      · rw [if_pos e2, if_pos (by omega)]
      · rw [if_neg e2, if_neg (by omega)]

/-- A whole new row, as a value. -/
theorem rowAt_made {w : World} {N L : Nat} {xs : List Int} {S : Nat → Prop} (h : w.rowIs N 3 L (fun i => .int .i64 (xs.getD i 0))) (hL : L = xs.length) (hS : S N) : RowAt w S (.slice (some ⟨N, 0, none⟩) L L) xs := by
  subst hL
  exact ⟨_, _, rfl, fun _ => ⟨N, 0, rfl, hS, fun j hj => by rw [Nat.zero_add]; exact h.cell hj⟩⟩

/-- What the copy leaves. -/
def Copied (w : World) (xs : List Int) (e : Ending) (w' : World) : Prop := ∃ a cap, e = .returned (.slice a xs.length cap) ∧ Below w.heap.size w w' ∧ RowAt w' (fun b => w.heap.size ≤ b ∧ b < w'.heap.size) (.slice a xs.length cap) xs

set_option maxHeartbeats 400000 in
set_option maxRecDepth 100000 in
theorem copyInts_any (u : Value) (xs : List Int) (w : World) (hl : xs.length ≤ 1048576) (hrow : RowAt w (Lt w.heap.size) u xs) : Calls Try.prog 24 #[u] w fun e w' => Copied w xs e w' := by
  obtain ⟨a, cap, rfl, hrow⟩ := hrow
  obtain ⟨L, hLe⟩ : ∃ L, L = xs.length := ⟨_, rfl⟩
  rw [← hLe] at hl hrow ⊢
  have HL : Hid (L = xs.length ∧ (0 < L → ∃ b off, a = some ⟨b, off, none⟩ ∧ Lt w.heap.size b ∧ ∀ j, j < L → w.cell? ⟨b, off + j, none⟩ = some (.int .i64 (xs.getD j 0)))) := ⟨hLe, hrow⟩
  clear hLe hrow
  cases ha : a with
  | none =>
    subst ha
    have hn := nil29
    go_enter Try.func24, Try.ntmps24
    go_wp2
    go_ret
    have h0 : xs.length = 0 := by
      rcases Nat.eq_zero_or_pos L with h | h
      · rw [← HL.out.1]; exact h
      · obtain ⟨b, off, hb, _⟩ := HL.out.2 h; cases hb
    exact ⟨none, 0, by rw [h0]; rfl, Below.refl _ _, none, 0, rfl, fun h => by omega⟩
  | some x =>
    have HX : Hid (a = some x) := ha
    clear ha
    have hn := nil29
    have hmk := run_make_row' (P := Try.prog) 29 3 (.int .i64 0) 8 Try.underlying29 info3 rfl .i64 .i64 L (by omega) (by omega)
    go_enter Try.func24, Try.ntmps24
    go_wp2
    go_loopw [12] (fun i wr => ∃ m : Nat, m ≤ L ∧ i = .int .i64 m ∧ Hid (wr.rowIs w.heap.size 3 L (half xs m) ∧ Below w.heap.size w wr)) (fun i _ => L - (intOf i).toNat)
    case atStart => exact ⟨0, Nat.zero_le _, rfl, (World.rowIs_made _ _ _ _).congr (fun i _ => by simp [half]), (Below.refl _ _).alloc (Nat.le_refl _) _⟩
    case round =>
      obtain ⟨m, hk, rfl, HR⟩ := hrel
      clear hmk hn
      by_cases hlt : m < L
      · obtain ⟨b, off, hA, hbl, hcc⟩ := HL.out.2 (by omega)
        have hcm : wr.cell? ⟨b, off + m, none⟩ = some (.int .i64 (xs.getD m 0)) := (HR.out.2.cell (by exact hbl)).trans (hcc m hlt)
        have hix := fun w => at29 (cap := cap) (w := w) (HX.out.symm.trans hA) hlt
        clear hA hbl hcc
        have hcn := HR.out.1.cell hlt
        have hcf := HR.out.1.frozen m
        obtain ⟨z, hzz⟩ : ∃ z, z = xs.getD m 0 := ⟨_, rfl⟩
        rw [← hzz] at hcm
        have HZ : Hid (z = xs.getD m 0) := hzz
        clear hzz
        unfold half at hcn
        go_wp2
        go_roundw
        case rel => exact ⟨m + 1, by omega, by go_num, by rw [HZ.out]; exact half_step HR.out.1, HR.out.2.setCell (Nat.le_refl _) _⟩
        case measure => simp [intOf]; omega
      · go_wp2
        go_ret
        have hL := HL.out.1
        refine ⟨some ⟨w.heap.size, 0, none⟩, L, by rw [← hL]; rfl, HR.out.2, ?_⟩
        rw [← hL]
        exact rowAt_made (HR.out.1.congr fun i hi => by unfold half; rw [if_pos (by omega)]) hL ⟨Nat.le_refl _, HR.out.1.lt⟩

/-- What the copy of the graph leaves. -/
def CopiedAll (w : World) (Z : List (List Int)) (e : Ending) (w' : World) : Prop := ∃ a cap, e = .returned (.slice a Z.length cap) ∧ Below w.heap.size w w' ∧ RowsAt w' (Lt w'.heap.size) (.slice a Z.length cap) Z

/-- Behind r rounds: the new outer row, and the copies that it holds. -/
structure Adj (w : World) (n : Nat) (Z : List (List Int)) (r : Nat) (wr : World) : Prop where
  row : ∃ F : Nat → Value, wr.rowIs w.heap.size 29 n F ∧ ∀ i, i < r → RowAt wr (fun b => w.heap.size < b ∧ b < wr.heap.size) (F i) (Z.getD i [])
  below : Below w.heap.size w wr

theorem Adj.start (w : World) (n : Nat) (Z : List (List Int)) : Adj w n Z 0 (w.alloc (.cells (madeCells #[.slice none 0 0] n) 29)) :=
  ⟨⟨_, World.rowIs_made _ _ _ _, fun i hi => by omega⟩, (Below.refl _ _).alloc (Nat.le_refl _) _⟩

theorem Adj.step {w wr w1 : World} {n r : Nat} {Z : List (List Int)} {u : Value} (h : Adj w n Z r wr) (hlt : w.heap.size < wr.heap.size) (hb : Below wr.heap.size wr w1) (hu : RowAt w1 (fun b => wr.heap.size ≤ b ∧ b < w1.heap.size) u (Z.getD r [])) :
    Adj w n Z (r + 1) (w1.setCell ⟨w.heap.size, r, none⟩ u) := by
  obtain ⟨⟨F, hF, hrows⟩, hbel⟩ := h
  have hsz : (w1.setCell ⟨w.heap.size, r, none⟩ u).heap.size = w1.heap.size := by simp [World.setCell]
  have hs1 := hb.size
  have hF1 : w1.rowIs w.heap.size 29 n F := hF.of_block (hb.block _ hlt)
  refine ⟨⟨_, hF1.set r u, fun i hi => ?_⟩, (hbel.trans (hb.mono (by omega))).setCell (Nat.le_refl _) _⟩
  show RowAt _ _ (if i = r then u else F i) _
  by_cases e : i = r
  · subst e
    rw [if_pos rfl]
    exact hu.keep (fun b hb' => Below.heap_setCell _ _ _ _ (by show b ≠ w.heap.size; omega)) (fun b hb' => ⟨by omega, by rw [hsz]; exact hb'.2⟩)
  · rw [if_neg e]
    refine (hrows i (by omega)).keep (fun b hb' => ?_) (fun b hb' => ⟨hb'.1, by rw [hsz]; omega⟩)
    rw [Below.heap_setCell _ _ _ _ (by show b ≠ w.heap.size; omega)]
    exact hb.block b hb'.2

set_option maxHeartbeats 400000 in
set_option maxRecDepth 100000 in
theorem copyAdj_any (v : Value) (Z : List (List Int)) (w : World) (hl : Z.length ≤ 1048576) (hs : Short Z) (hrow : RowsAt w (Lt w.heap.size) v Z) : Calls Try.prog 11 #[v] w fun e w' => CopiedAll w Z e w' := by
  obtain ⟨a, cap, rfl, hrow⟩ := hrow
  obtain ⟨n, hLe⟩ : ∃ n, n = Z.length := ⟨_, rfl⟩
  rw [← hLe] at hl hrow ⊢
  have HL : Hid (n = Z.length ∧ (0 < n → ∃ b off, a = some ⟨b, off, none⟩ ∧ Lt w.heap.size b ∧ ∀ r, r < n → ∃ u, w.cell? ⟨b, off + r, none⟩ = some u ∧ RowAt w (Lt w.heap.size) u (Z.getD r [])) ∧ ∀ r, r < n → (Z.getD r []).length ≤ 1048576) := ⟨hLe, hrow, fun r hr => hs r (hLe ▸ hr)⟩
  clear hLe hrow hs
  cases ha : a with
  | none =>
    subst ha
    have hn := nil22
    go_enter Try.func11, Try.ntmps11
    go_wp2
    go_ret
    have h0 : Z.length = 0 := by
      rcases Nat.eq_zero_or_pos n with h | h
      · rw [← HL.out.1]; exact h
      · obtain ⟨b, off, hb, _⟩ := HL.out.2.1 h; cases hb
    exact ⟨none, 0, by rw [h0]; rfl, Below.refl _ _, none, 0, rfl, fun h => by omega⟩
  | some x =>
    have HX : Hid (a = some x) := ha
    clear ha
    have hn := nil22
    have hmk := run_make_row' (P := Try.prog) 22 29 (.slice none 0 0) 24 Try.underlying22 info29 rfl .i64 .i64 n (by omega) (by omega)
    go_enter Try.func11, Try.ntmps11
    go_wp2
    go_loopw [12] (fun i wr => ∃ m : Nat, m ≤ n ∧ i = .int .i64 m ∧ w.heap.size < wr.heap.size ∧ Hid (Adj w n Z m wr)) (fun i _ => n - (intOf i).toNat)
    case atStart => exact ⟨0, Nat.zero_le _, rfl, by simp, Adj.start w n Z⟩
    case round =>
      obtain ⟨m, hk, rfl, hsz, HR⟩ := hrel
      clear hmk hn
      by_cases hlt : m < n
      · obtain ⟨b, off, hA, hbl, hcc⟩ := HL.out.2.1 (by omega)
        obtain ⟨u, hu, hur⟩ := hcc m hlt
        have hcm : wr.cell? ⟨b, off + m, none⟩ = some u := (HR.out.below.cell (by exact hbl)).trans hu
        have hix := fun w => at22 (cap := cap) (w := w) (HX.out.symm.trans hA) hlt
        have hur' : RowAt wr (Lt wr.heap.size) u (Z.getD m []) := hur.below HR.out.below (by omega)
        have HU : Hid (RowAt wr (Lt wr.heap.size) u (Z.getD m [])) := hur'
        obtain ⟨au, cu, hue, _⟩ := hur
        clear hA hbl hcc hu hur'
        rw [hue] at hcm
        obtain ⟨L, hLL⟩ : ∃ L, L = (Z.getD m []).length := ⟨_, rfl⟩
        rw [← hLL] at hcm hue
        have HUE : Hid (u = .slice au L cu) := hue
        clear hLL hue
        go_wp2_with fail
        refine ((by have := copyInts_any u (Z.getD m []) wr (HL.out.2.2 m hlt) HU.out; rw [HUE.out] at this; exact this) : Calls Try.prog 24 #[.slice au L cu] wr fun e w' => Copied wr (Z.getD m []) e w').mono ?_
        rintro e w1 ⟨a1, c1, rfl, hb1, hr1⟩
        obtain ⟨F, hF, _⟩ := HR.out.row
        have hF1 : w1.rowIs w.heap.size 29 n F := hF.of_block (hb1.block _ hsz)
        have hcn := hF1.cell hlt
        have hcf := hF1.frozen m
        have hsz1 : w.heap.size < w1.heap.size := Nat.lt_of_lt_of_le hsz hb1.size
        have HS : Hid (Adj w n Z (m + 1) (w1.setCell ⟨w.heap.size, m, none⟩ (.slice a1 (Z.getD m []).length c1))) := HR.out.step hsz hb1 hr1
        clear hb1 hr1 hF hF1 hcm hix
        go_wp2
        go_roundw
        case rel => exact ⟨m + 1, by omega, by go_num, by simpa using hsz1, HS.out⟩
        case measure => simp [intOf]; omega
      · go_wp2
        go_ret
        have hL := HL.out.1
        obtain ⟨F, hF, hrows⟩ := HR.out.row
        refine ⟨some ⟨w.heap.size, 0, none⟩, n, by rw [← hL]; rfl, HR.out.below, some ⟨w.heap.size, 0, none⟩, n, rfl, fun _ => ⟨w.heap.size, 0, rfl, hsz, fun r hr => ⟨F r, by rw [Nat.zero_add]; exact hF.cell (by omega), (hrows r (by omega)).keep (fun _ _ => rfl) (fun _ h => h.2)⟩⟩⟩
end Go.Proofs.Qxb6603228a
