/-
  The law's guards: they read alone; what their 'yes' says.
-/
import Derived.Test.Qxb6603228aMem
namespace Go.Proofs.Qxb6603228a
open Go.RowKit

/-- Every edge ends at a node of the graph. -/
def InRange (Z : List (List Int)) : Prop := ∀ r, r < Z.length → ∀ j, j < (Z.getD r []).length → 0 ≤ (Z.getD r []).getD j 0 ∧ (Z.getD r []).getD j 0 < Z.length

/-- No row is longer than a million. -/
def Short (Z : List (List Int)) : Prop := ∀ r, r < Z.length → (Z.getD r []).length ≤ 1048576

theorem ret_bool {a b : Bool} (h : a = b) : Ending.returned (.bool a) = .returned (.bool b) := by rw [h]

/-- It answers yes or no, and leaves the world as it was; its yes says P. -/
def Says (w : World) (P : Prop) (e : Ending) (w' : World) : Prop := ∃ q : Bool, e = .returned (.bool q) ∧ w' = w ∧ (q = true → P)

theorem more_rows {P : Nat → Prop} {r : Nat} (h : ∀ r', r' < r → P r') (h1 : P r) : ∀ r', r' < r + 1 → P r' := fun r' hr => by
  by_cases e : r' < r
  · exact h r' e
  · obtain rfl : r' = r := by omega
    exact h1

set_option maxHeartbeats 400000 in
set_option maxRecDepth 100000 in
theorem inRange_any (a : Option Addr) (b off n cap : Nat) (Z : List (List Int)) (S : Nat → Prop) (w : World) (hn : n = Z.length) (hlen : n ≤ 1048576) (hrl : Short Z)
    (hrows : 0 < n → a = some ⟨b, off, none⟩ ∧ ∀ r, r < n → ∃ u, w.cell? ⟨b, off + r, none⟩ = some u ∧ RowAt w S u (Z.getD r [])) :
    Calls Try.prog 10 #[.slice a n cap] w fun e w' => Says w (InRange Z) e w' := by
  have HR : Hid ((0 < n → a = some ⟨b, off, none⟩ ∧ ∀ r, r < n → ∃ u, w.cell? ⟨b, off + r, none⟩ = some u ∧ RowAt w S u (Z.getD r [])) ∧ (∀ r, r < n → (Z.getD r []).length ≤ 1048576) ∧ n = Z.length) := ⟨hrows, fun r hr => hrl r (hn ▸ hr), hn⟩
  clear hrows hrl hn
  go_enter Try.func10, Try.ntmps10
  go_wp2
  go_loop [9] (fun i => ∃ r : Nat, r ≤ n ∧ i = .int .i64 r ∧ Hid (∀ r', r' < r → ∀ j, j < (Z.getD r' []).length → 0 ≤ (Z.getD r' []).getD j 0 ∧ (Z.getD r' []).getD j 0 < n)) (fun i => n - (intOf i).toNat)
  case atStart => exact ⟨0, Nat.zero_le _, rfl, fun r' h => by omega⟩
  case round =>
    obtain ⟨r, hr, rfl, HA⟩ := hrel
    by_cases hlt : r < n
    · obtain ⟨hA, hrr⟩ := HR.out.1 (by omega)
      obtain ⟨u, hu, ar, cr, rfl, hrow⟩ := hrr r hlt
      have hL := HR.out.2.1 r hlt
      have hix := fun w => at22 (cap := cap) (w := w) hA hlt
      clear hrr hA
      obtain ⟨zs, hzs⟩ : ∃ zs, zs = Z.getD r [] := ⟨_, rfl⟩
      rw [← hzs] at hu hrow hL
      have HZ : Hid (zs = Z.getD r []) := hzs
      clear hzs
      obtain ⟨L, hLe⟩ : ∃ L, L = zs.length := ⟨_, rfl⟩
      rw [← hLe] at hu hrow hL
      have HL : Hid (L = zs.length) := hLe
      clear hLe
      have HW : Hid (0 < L → ∃ b off, ar = some ⟨b, off, none⟩ ∧ S b ∧ ∀ j, j < L → w.cell? ⟨b, off + j, none⟩ = some (.int .i64 (zs.getD j 0))) := hrow
      clear hrow
      go_wp2
      go_loop [15] (fun i => ∃ j : Nat, j ≤ L ∧ i = .int .i64 j ∧ Hid (∀ j', j' < j → 0 ≤ zs.getD j' 0 ∧ zs.getD j' 0 < n)) (fun i => L - (intOf i).toNat)
      case atStart => exact ⟨0, Nat.zero_le _, rfl, fun r' h => by omega⟩
      case round =>
        obtain ⟨j, hj, rfl, HB⟩ := hrel
        by_cases hjl : j < L
        · obtain ⟨b2, off2, hA2, _, hc2⟩ := HW.out (by omega)
          have hix2 := fun w => at29 (cap := cr) (w := w) hA2 hjl
          have hcj := hc2 j hjl
          clear hA2 hc2
          obtain ⟨z, hz⟩ : ∃ z, z = zs.getD j 0 := ⟨_, rfl⟩
          rw [← hz] at hcj
          have Hz : Hid (z = zs.getD j 0) := hz
          clear hz
          by_cases hneg : z < 0
          · go_wp2
            go_ret
            exact ⟨false, rfl, rfl, fun h => by cases h⟩
          · by_cases hge : n ≤ z
            · go_wp2
              go_ret
              exact ⟨false, rfl, rfl, fun h => by cases h⟩
            · go_wp2
              go_round
              case rel => exact ⟨j + 1, by omega, by go_num, more_rows HB.out (by rw [← Hz.out]; omega)⟩
              case measure => simp [intOf]; omega
        · go_wp2
          go_round
          case rel => exact ⟨r + 1, by omega, by go_num, more_rows HA.out (fun j' hj' => by rw [← HZ.out] at hj' ⊢; exact HB.out j' (by rw [← HL.out] at hj'; omega))⟩
          case measure => simp [intOf]; omega
    · go_wp2
      go_ret
      exact ⟨true, rfl, rfl, fun _ r' hr' j hj => by have := HR.out.2.2; rw [← this] at hr' ⊢; exact HA.out r' (by omega) j hj⟩

set_option maxHeartbeats 400000 in
set_option maxRecDepth 100000 in
/-- zzBytes: no row is longer than a million where she says yes. -/
theorem bytes_any (a : Option Addr) (b off n cap : Nat) (Z : List (List Int)) (S : Nat → Prop) (w : World) (hn : n = Z.length)
    (hrows : 0 < n → a = some ⟨b, off, none⟩ ∧ ∀ r, r < n → ∃ u, w.cell? ⟨b, off + r, none⟩ = some u ∧ RowAt w S u (Z.getD r [])) :
    Calls Try.prog 8 #[.slice a n cap] w fun e w' => Says w (n ≤ 1048576 ∧ Short Z) e w' := by
  by_cases hbig : 1048576 < n
  · clear hrows hn
    go_enter Try.func8, Try.ntmps8
    go_wp2
    go_ret
    exact ⟨false, rfl, rfl, fun h => by cases h⟩
  · have HR : Hid ((0 < n → a = some ⟨b, off, none⟩ ∧ ∀ r, r < n → ∃ u, w.cell? ⟨b, off + r, none⟩ = some u ∧ RowAt w S u (Z.getD r [])) ∧ n = Z.length) := ⟨hrows, hn⟩
    clear hrows hn
    go_enter Try.func8, Try.ntmps8
    go_wp2
    go_loop [3, 4] (fun t i => ∃ r s : Nat, r ≤ n ∧ s ≤ 1048576 ∧ t = .int .i64 s ∧ i = .int .i64 r ∧ Hid (∀ r', r' < r → (Z.getD r' []).length ≤ 1048576)) (fun _ i => n - (intOf i).toNat)
    case atStart => exact ⟨0, n, Nat.zero_le _, by omega, rfl, rfl, fun r' h => by omega⟩
    case round =>
      obtain ⟨r, s, hr, hs, rfl, rfl, HA⟩ := hrel
      by_cases hlt : r < n
      · obtain ⟨hA, hrr⟩ := HR.out.1 (by omega)
        obtain ⟨u, hu, ar, cr, rfl, _⟩ := hrr r hlt
        have hix := fun w => at22 (cap := cap) (w := w) hA hlt
        clear hrr hA
        obtain ⟨L, hLe⟩ : ∃ L, L = (Z.getD r []).length := ⟨_, rfl⟩
        rw [← hLe] at hu
        have HL : Hid (L = (Z.getD r []).length) := hLe
        clear hLe
        by_cases hL : 1048576 < L
        · go_wp2
          go_ret
          exact ⟨false, rfl, rfl, fun h => by cases h⟩
        · by_cases hs2 : 1048576 < s + L
          · go_wp2
            go_ret
            exact ⟨false, rfl, rfl, fun h => by cases h⟩
          · go_wp2
            go_round
            case rel => exact ⟨r + 1, s + L, by omega, by omega, by go_num, by go_num, more_rows HA.out (by rw [← HL.out]; omega)⟩
            case measure => simp [intOf]; omega
      · go_wp2
        go_ret
        exact ⟨true, rfl, rfl, fun _ => ⟨by omega, fun r' hr' => HA.out r' (by have := HR.out.2; omega)⟩⟩

set_option maxHeartbeats 400000 in
set_option maxRecDepth 100000 in
/-- adjSmall: whatever she says. -/
theorem small_any (a : Option Addr) (b off n cap : Nat) (Z : List (List Int)) (S : Nat → Prop) (w : World) (hn : n = Z.length) (hlen : n ≤ 1048576) (hrl : Short Z)
    (hrows : 0 < n → a = some ⟨b, off, none⟩ ∧ ∀ r, r < n → ∃ u, w.cell? ⟨b, off + r, none⟩ = some u ∧ RowAt w S u (Z.getD r [])) :
    Calls Try.prog 9 #[.slice a n cap] w fun e w' => Says w True e w' := by
  by_cases hbig : 1048576 < 24 * n
  · clear hrows hn hrl
    go_enter Try.func9, Try.ntmps9
    go_wp2
    go_ret
    exact ⟨false, rfl, rfl, fun _ => trivial⟩
  · have HR : Hid ((0 < n → a = some ⟨b, off, none⟩ ∧ ∀ r, r < n → ∃ u, w.cell? ⟨b, off + r, none⟩ = some u ∧ RowAt w S u (Z.getD r [])) ∧ (∀ r, r < n → (Z.getD r []).length ≤ 1048576)) := ⟨hrows, fun r hr => hrl r (hn ▸ hr)⟩
    clear hrows hn hrl
    go_enter Try.func9, Try.ntmps9
    go_wp2
    go_loop [3, 16] (fun t i => ∃ r s : Nat, r ≤ n ∧ s ≤ 1048576 ∧ t = .int .i64 s ∧ i = .int .i64 r) (fun _ i => n - (intOf i).toNat)
    case atStart => exact ⟨0, 24 * n, Nat.zero_le _, by omega, by go_num, rfl⟩
    case round =>
      obtain ⟨r, s, hr, hs, rfl, rfl⟩ := hrel
      by_cases hlt : r < n
      · obtain ⟨hA, hrr⟩ := HR.out.1 (by omega)
        obtain ⟨u, hu, ar, cr, rfl, _⟩ := hrr r hlt
        have hL := HR.out.2 r hlt
        have hix := fun w => at22 (cap := cap) (w := w) hA hlt
        clear hrr hA
        obtain ⟨L, hLe⟩ : ∃ L, L = (Z.getD r []).length := ⟨_, rfl⟩
        rw [← hLe] at hu hL
        clear hLe
        by_cases hs2 : 1048576 < s + 8 * L
        · go_wp2
          go_ret
          exact ⟨false, rfl, rfl, fun _ => trivial⟩
        · go_wp2
          go_round
          case rel => exact ⟨r + 1, s + 8 * L, by omega, by omega, by go_num, by go_num⟩
          case measure => simp [intOf]; omega
      · go_wp2
        go_ret
        exact ⟨_, rfl, rfl, fun _ => trivial⟩
end Go.Proofs.Qxb6603228a
