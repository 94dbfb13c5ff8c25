/-
  How the law's data lie in memory: rows of integers, rows of rows; what stays as it was.
-/
import Derived.Test.Qxb6603228aRows
import Derived.WalkKit
import Derived.WalkSpells
import Derived.Outline
import Derived.Below
import Derived.Deep.OwnRows
import Derived.Deep.LoopGhost
import Derived.OpenShut
namespace Go.Proofs.Qxb6603228a
open Go.RowKit

theorem info3 : (Try.prog.info? 3).map (fun i => (i.zero, i.size, i.bytes)) = some (some (.int .i64 0), 1, 8) := by kernel_rfl
theorem info4 : (Try.prog.info? 4).map (fun i => (i.zero, i.size, i.bytes)) = some (some (.bool false), 1, 1) := by kernel_rfl
theorem info29 : (Try.prog.info? 29).map (fun i => (i.zero, i.size, i.bytes)) = some (some (.slice none 0 0), 1, 24) := by kernel_rfl

/-- The slice value u reads as the integers xs, its cells in a block of S. -/
def RowAt (w : World) (S : Nat → Prop) (u : Value) (xs : List Int) : Prop :=
  ∃ a cap, u = .slice a xs.length cap ∧ (0 < xs.length → ∃ b off, a = some ⟨b, off, none⟩ ∧ S b ∧ ∀ j, j < xs.length → w.cell? ⟨b, off + j, none⟩ = some (.int .i64 (xs.getD j 0)))

theorem RowAt.keep {w w' : World} {S S' : Nat → Prop} {u : Value} {xs : List Int} (h : RowAt w S u xs) (hk : ∀ b, S b → w'.heap[b]? = w.heap[b]?) (hs : ∀ b, S b → S' b) : RowAt w' S' u xs := by
  obtain ⟨a, cap, rfl, r⟩ := h
  refine ⟨a, cap, rfl, fun h0 => ?_⟩
  obtain ⟨b, off, ha, hS, hc⟩ := r h0
  exact ⟨b, off, ha, hs b hS, fun j hj => (World.cell?_of_block (w := w) (a := ⟨b, off + j, none⟩) (hk b hS)).trans (hc j hj)⟩

/-- Its elements are rows. -/
def RowsAt (w : World) (S : Nat → Prop) (v : Value) (Z : List (List Int)) : Prop :=
  ∃ a cap, v = .slice a Z.length cap ∧ (0 < Z.length → ∃ b off, a = some ⟨b, off, none⟩ ∧ S b ∧ ∀ r, r < Z.length → ∃ u, w.cell? ⟨b, off + r, none⟩ = some u ∧ RowAt w S u (Z.getD r []))

theorem RowsAt.keep {w w' : World} {S S' : Nat → Prop} {v : Value} {Z : List (List Int)} (h : RowsAt w S v Z) (hk : ∀ b, S b → w'.heap[b]? = w.heap[b]?) (hs : ∀ b, S b → S' b) : RowsAt w' S' v Z := by
  obtain ⟨a, cap, rfl, r⟩ := h
  refine ⟨a, cap, rfl, fun h0 => ?_⟩
  obtain ⟨b, off, ha, hS, hc⟩ := r h0
  refine ⟨b, off, ha, hs b hS, fun r hr => ?_⟩
  obtain ⟨u, h1, h2⟩ := hc r hr
  exact ⟨u, (World.cell?_of_block (w := w) (a := ⟨b, off + r, none⟩) (hk b hS)).trans h1, h2.keep hk hs⟩

/-- All blocks below B. -/
def Lt (B : Nat) (b : Nat) : Prop := b < B

theorem RowAt.below {w w' : World} {B B' : Nat} {u : Value} {xs : List Int} (h : RowAt w (Lt B) u xs) (hb : Below B w w') (hB : B ≤ B') : RowAt w' (Lt B') u xs :=
  h.keep (fun b hlt => hb.block b hlt) (fun _ hlt => Nat.lt_of_lt_of_le hlt hB)
theorem RowsAt.below {w w' : World} {B B' : Nat} {v : Value} {Z : List (List Int)} (h : RowsAt w (Lt B) v Z) (hb : Below B w w') (hB : B ≤ B') : RowsAt w' (Lt B') v Z :=
  h.keep (fun b hlt => hb.block b hlt) (fun _ hlt => Nat.lt_of_lt_of_le hlt hB)

/-- The address of element k, whatever the slice's first word is called. -/
theorem at22 {a : Option Addr} {b off n cap k : Nat} (ha : a = some ⟨b, off, none⟩) (hk : k < n) (w : World) :
    (Instr.indexAt 22 (.slice a n cap) (.int .i64 (k : Int))).run Try.prog w = .ok (.pointer (some ⟨b, off + k, none⟩)) w := by
  subst ha
  go_simp
theorem at29 {a : Option Addr} {b off n cap k : Nat} (ha : a = some ⟨b, off, none⟩) (hk : k < n) (w : World) :
    (Instr.indexAt 29 (.slice a n cap) (.int .i64 (k : Int))).run Try.prog w = .ok (.pointer (some ⟨b, off + k, none⟩)) w := by
  subst ha
  go_simp
end Go.Proofs.Qxb6603228a
