/-
  compsWellFormed and sameInts: they read alone (and draw).
-/
import Derived.Test.Qxb6603228aCopy
import Derived.Deep.QuietTactic
import Derived.BigQuiet
namespace Go.Proofs.Qxb6603228a
open Go.RowKit

/-- Every component: two nodes or more, of the graph, rising. -/
def WellF (C : List (List Int)) (n : Nat) : Prop := ∀ c, c < C.length → 2 ≤ (C.getD c []).length ∧ (C.getD c []).length ≤ 1048576 ∧ ∀ j, j < (C.getD c []).length → (0 ≤ (C.getD c []).getD j 0 ∧ (C.getD c []).getD j 0 < n) ∧ (0 < j → (C.getD c []).getD (j - 1) 0 < (C.getD c []).getD j 0)

/-- It answers this, and only draws. -/
def Tells (w : World) (q : Bool) (e : Ending) (w' : World) : Prop := e = .returned (.bool q) ∧ ∃ k, w' = w.drewN k

set_option maxHeartbeats 400000 in
set_option maxRecDepth 100000 in
theorem well_any (a : Option Addr) (b off m cap n : Nat) (C : List (List Int)) (S : Nat → Prop) (w : World) (hm : m = C.length) (hlen : m ≤ 1048576) (hwf : WellF C n)
    (hrows : 0 < m → a = some ⟨b, off, none⟩ ∧ ∀ r, r < m → ∃ u, w.cell? ⟨b, off + r, none⟩ = some u ∧ RowAt w S u (C.getD r [])) :
    Calls Try.prog 13 #[.slice a m cap, .int .i64 n] w fun e w' => Tells w true e w' := by
  have HR : Hid ((0 < m → a = some ⟨b, off, none⟩ ∧ ∀ r, r < m → ∃ u, w.cell? ⟨b, off + r, none⟩ = some u ∧ RowAt w S u (C.getD r [])) ∧ (∀ c, c < m → 2 ≤ (C.getD c []).length ∧ (C.getD c []).length ≤ 1048576 ∧ ∀ j, j < (C.getD c []).length → (0 ≤ (C.getD c []).getD j 0 ∧ (C.getD c []).getD j 0 < n) ∧ (0 < j → (C.getD c []).getD (j - 1) 0 < (C.getD c []).getD j 0))) := ⟨hrows, fun r hr => hwf r (hm ▸ hr)⟩
  clear hrows hwf hm
  go_enter Try.func13, Try.ntmps13
  go_wp2
  go_loopw [10] (fun i wr => ∃ r k : Nat, r ≤ m ∧ i = .int .i64 r ∧ wr = w.drewN k) (fun i _ => m - (intOf i).toNat)
  case atStart => exact ⟨0, 0, Nat.zero_le _, rfl, rfl⟩
  case round =>
    obtain ⟨r, k, hr, rfl, hwr⟩ := hrel
    subst hwr
    by_cases hlt : r < m
    · obtain ⟨hA, hrr⟩ := HR.out.1 (by omega)
      obtain ⟨u, hu, ar, cr, rfl, hrow⟩ := hrr r hlt
      obtain ⟨hL2, hL, hw⟩ := HR.out.2 r hlt
      have hix := fun w => at22 (cap := cap) (w := w) hA hlt
      clear hrr hA
      obtain ⟨zs, hzs⟩ : ∃ zs, zs = C.getD r [] := ⟨_, rfl⟩
      rw [← hzs] at hu hrow hL2 hL hw
      clear hzs
      obtain ⟨L, hLe⟩ : ∃ L, L = zs.length := ⟨_, rfl⟩
      rw [← hLe] at hu hrow hL2 hL hw
      clear hLe
      have HW : Hid ((0 < L → ∃ b off, ar = some ⟨b, off, none⟩ ∧ S b ∧ ∀ j, j < L → w.cell? ⟨b, off + j, none⟩ = some (.int .i64 (zs.getD j 0))) ∧ ∀ j, j < L → (0 ≤ zs.getD j 0 ∧ zs.getD j 0 < n) ∧ (0 < j → zs.getD (j - 1) 0 < zs.getD j 0)) := ⟨hrow, hw⟩
      clear hrow hw
      go_wp2
      go_loopw [19] (fun i wr => ∃ j k : Nat, j ≤ L ∧ i = .int .i64 j ∧ wr = w.drewN k) (fun i _ => L - (intOf i).toNat)
      case atStart => exact ⟨0, k, Nat.zero_le _, rfl, rfl⟩
      case round =>
        obtain ⟨j, k2, hj, rfl, hwr⟩ := hrel
        subst hwr
        by_cases hjl : j < L
        · obtain ⟨b2, off2, hA2, _, hc2⟩ := HW.out.1 (by omega)
          have hix2 := fun w => at29 (cap := cr) (w := w) hA2 hjl
          have hcj := hc2 j hjl
          obtain ⟨⟨hz0, hz1⟩, hz2⟩ := HW.out.2 j hjl
          by_cases hj0 : 0 < j
          · have hcj1 := hc2 (j - 1) (by omega)
            have hix3 := fun w => at29 (cap := cr) (w := w) hA2 (show j - 1 < L by omega)
            have ej : ((j - 1 : Nat) : Int) = (j : Int) - 1 := by omega
            rw [ej] at hix3
            have hz3 := hz2 hj0
            clear hz2 hA2 hc2 ej
            obtain ⟨z, hz⟩ : ∃ z, z = zs.getD j 0 := ⟨_, rfl⟩
            obtain ⟨y, hy⟩ : ∃ y, y = zs.getD (j - 1) 0 := ⟨_, rfl⟩
            rw [← hz] at hcj hz0 hz1 hz3
            rw [← hy] at hcj1 hz3
            clear hz hy
            obtain ⟨o3, ho3⟩ : ∃ o3, o3 = off2 + (j - 1) := ⟨_, rfl⟩
            rw [← ho3] at hcj1 hix3
            clear ho3
            go_wp2
            go_quiet (fail)
            go_wp2
            go_roundw
            case rel => exact ⟨j + 1, _, by omega, by go_num, rfl⟩
            case measure => simp [intOf]; omega
          · clear hz2 hA2 hc2
            obtain ⟨z, hz⟩ : ∃ z, z = zs.getD j 0 := ⟨_, rfl⟩
            rw [← hz] at hcj hz0 hz1
            clear hz
            have hd : decide (0 < (j : Int)) = false := by rw [decide_eq_false_iff_not]; omega
            go_wp2
            go_quiet (fail)
            go_wp2
            go_roundw
            case rel => exact ⟨j + 1, _, by omega, by go_num, rfl⟩
            case measure => simp [intOf]; omega
        · go_wp2
          go_roundw
          case rel => exact ⟨r + 1, k2, by omega, by go_num, rfl⟩
          case measure => simp [intOf]; omega
    · go_wp2
      go_ret
      exact ⟨rfl, k, rfl⟩

set_option maxHeartbeats 400000 in
set_option maxRecDepth 100000 in
theorem same_any (u v : Value) (xs : List Int) (S T : Nat → Prop) (w : World) (hl : xs.length ≤ 1048576) (hu : RowAt w S u xs) (hv : RowAt w T v xs) : Calls Try.prog 16 #[u, v] w fun e w' => Tells w true e w' := by
  obtain ⟨a, cap, rfl, hu⟩ := hu
  obtain ⟨a2, cap2, rfl, hv⟩ := hv
  obtain ⟨L, hLe⟩ : ∃ L, L = xs.length := ⟨_, rfl⟩
  rw [← hLe] at hl hu hv ⊢
  have HL : Hid ((0 < L → ∃ b off, a = some ⟨b, off, none⟩ ∧ S b ∧ ∀ j, j < L → w.cell? ⟨b, off + j, none⟩ = some (.int .i64 (xs.getD j 0))) ∧ (0 < L → ∃ b off, a2 = some ⟨b, off, none⟩ ∧ T b ∧ ∀ j, j < L → w.cell? ⟨b, off + j, none⟩ = some (.int .i64 (xs.getD j 0)))) := ⟨hu, hv⟩
  clear hLe hu hv
  go_enter Try.func16, Try.ntmps16
  go_wp2
  go_loopw [13] (fun i wr => ∃ m k : Nat, m ≤ L ∧ i = .int .i64 m ∧ wr = w.drewN k) (fun i _ => L - (intOf i).toNat)
  case atStart => exact ⟨0, 0, Nat.zero_le _, rfl, rfl⟩
  case round =>
    obtain ⟨m, k, hk, rfl, hwr⟩ := hrel
    subst hwr
    by_cases hlt : m < L
    · obtain ⟨b, off, hA, _, hc⟩ := HL.out.1 (by omega)
      obtain ⟨b2, off2, hA2, _, hc2⟩ := HL.out.2 (by omega)
      have hix := fun w => at29 (cap := cap) (w := w) hA hlt
      have hix2 := fun w => at29 (cap := cap2) (w := w) hA2 hlt
      have hcm := hc m hlt
      have hcm2 := hc2 m hlt
      clear hA hc hA2 hc2
      obtain ⟨z, hz⟩ : ∃ z, z = xs.getD m 0 := ⟨_, rfl⟩
      rw [← hz] at hcm hcm2
      clear hz
      go_wp2
      go_quiet (fail)
      go_wp2
      go_roundw
      case rel => exact ⟨m + 1, _, by omega, by go_num, rfl⟩
      case measure => simp [intOf]; omega
    · go_wp2
      go_ret
      exact ⟨rfl, k, rfl⟩
end Go.Proofs.Qxb6603228a
