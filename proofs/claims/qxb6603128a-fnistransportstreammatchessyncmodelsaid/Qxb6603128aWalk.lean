/-
  The walks: the copy (a loop of stores into a new row), the two readers, the law.
-/
import Derived.Test.Qxb6603128aRows
import Derived.WalkKit
import Derived.WalkSpells
import Derived.Outline
import Derived.Below
import Derived.Deep.OwnRows
import Derived.OpenShut
namespace Go.Proofs.Qxb6603128a
open Go.RowKit

theorem info5 : (Try.prog.info? 5).map (fun i => (i.zero, i.size, i.bytes)) = some (some (.int .u8 0), 1, 1) := by kernel_rfl

/-- What both functions answer: two packets at least, and the sync byte at every multiple of the packet's length. -/
def syncB (len : Nat) (zs : List Int) : Bool := decide (376 ≤ len ∧ ∀ j, j < len → j % 188 = 0 → zs.getD j 0 = 71)

theorem syncB_short {len : Nat} {zs : List Int} (h : len < 376) : syncB len zs = false := by
  unfold syncB; rw [decide_eq_false_iff_not]; omega
theorem syncB_miss {len : Nat} {zs : List Int} {j : Nat} (h : j < len) (hm : j % 188 = 0) (hz : zs.getD j 0 ≠ 71) : syncB len zs = false := by
  unfold syncB; rw [decide_eq_false_iff_not]; exact fun ⟨_, k⟩ => hz (k j h hm)
theorem syncB_all {len : Nat} {zs : List Int} (h : 376 ≤ len) (hall : ∀ j, j < len → j % 188 = 0 → zs.getD j 0 = 71) : syncB len zs = true := by
  unfold syncB; rw [decide_eq_true_iff]; exact ⟨h, hall⟩
theorem ret_bool {a b : Bool} (h : a = b) : Ending.returned (.bool a) = .returned (.bool b) := by rw [h]
theorem more_ts {zs : List Int} {m : Nat} (hm : m % 188 = 0) (h : ∀ j, j < m → j % 188 = 0 → zs.getD j 0 = 71) (hz : zs.getD m 0 = 71) : ∀ j, j < m + 188 → j % 188 = 0 → zs.getD j 0 = 71 := by
  intro j hj hj2
  by_cases e : j < m
  · exact h j e hj2
  · obtain rfl : j = m := by omega
    exact hz
theorem more_one {zs : List Int} {m : Nat} (h : ∀ j, j < m → j % 188 = 0 → zs.getD j 0 = 71) (hz : m % 188 = 0 → zs.getD m 0 = 71) : ∀ j, j < m + 1 → j % 188 = 0 → zs.getD j 0 = 71 := by
  intro j hj hj2
  by_cases e : j < m
  · exact h j e hj2
  · obtain rfl : j = m := by omega
    exact hz hj2

set_option maxHeartbeats 400000 in
set_option maxRecDepth 100000 in
/-- isTransportStream: reads alone. -/
theorem ts_any (b off len cap : Nat) (zs : List Int) (w : World) (hl : len ≤ 1048576) (hc : ∀ j, j < len → w.cell? ⟨b, off + j, none⟩ = some (.int .u8 (zs.getD j 0))) :
    Calls Try.prog 19 #[.slice (some ⟨b, off, none⟩) len cap] w fun e w' => e = .returned (.bool (syncB len zs)) ∧ w' = w := by
  by_cases hs : len < 376
  · rw [syncB_short hs]
    clear hc
    go_enter Try.func19, Try.ntmps19
    go_wp2
    go_ret
    exact ⟨rfl, rfl⟩
  · have HC : Hid (∀ j, j < len → w.cell? ⟨b, off + j, none⟩ = some (.int .u8 (zs.getD j 0))) := hc
    clear hc
    go_enter Try.func19, Try.ntmps19
    go_wp2
    go_loop [3] (fun i => ∃ m : Nat, m < len + 188 ∧ i = .int .i64 m ∧ Hid (m % 188 = 0 ∧ ∀ j, j < m → j % 188 = 0 → zs.getD j 0 = 71)) (fun i => len + 188 - (intOf i).toNat)
    case atStart => exact ⟨0, by omega, rfl, rfl, fun j hj => by omega⟩
    case round =>
      obtain ⟨m, hk, rfl, HA⟩ := hrel
      by_cases hlt : m < len
      · have hcm := HC.out m hlt
        obtain ⟨z, hzz⟩ : ∃ z, z = zs.getD m 0 := ⟨_, rfl⟩
        rw [← hzz] at hcm
        have HZ : Hid (z = zs.getD m 0) := hzz
        clear hzz
        by_cases hz : z = 71
        · subst hz
          go_wp2
          go_round
          case rel => exact ⟨m + 188, by omega, by go_num, by have := HA.out.1; omega, more_ts HA.out.1 HA.out.2 HZ.out.symm⟩
          case measure => simp [intOf]; omega
        · have hzb : (z != 71) = true := by simpa using hz
          have HN : Hid (¬ z = 71) := hz
          clear hz
          go_wp2
          go_ret
          exact ⟨ret_bool (syncB_miss hlt HA.out.1 (by rw [← HZ.out]; exact HN.out)).symm, rfl⟩
      · go_wp2
        go_ret
        exact ⟨ret_bool (syncB_all (by omega) (fun j hj => HA.out.2 j (by omega))).symm, rfl⟩

set_option maxHeartbeats 400000 in
set_option maxRecDepth 100000 in
/-- ZZisTransportStream hands it on. -/
theorem zzts_any (b off len cap : Nat) (zs : List Int) (w : World) (hl : len ≤ 1048576) (hc : ∀ j, j < len → w.cell? ⟨b, off + j, none⟩ = some (.int .u8 (zs.getD j 0))) :
    Calls Try.prog 14 #[.slice (some ⟨b, off, none⟩) len cap] w fun e w' => e = .returned (.bool (syncB len zs)) ∧ w' = w := by
  have HC : Hid (∀ j, j < len → w.cell? ⟨b, off + j, none⟩ = some (.int .u8 (zs.getD j 0))) := hc
  clear hc
  go_enter Try.func14, Try.ntmps14
  go_wp2_with fail
  refine (ts_any b off len cap zs _ hl HC.out).mono ?_
  rintro e w' ⟨rfl, rfl⟩
  go_wp2
  go_ret
  exact ⟨rfl, rfl⟩

set_option maxHeartbeats 800000 in
set_option maxRecDepth 100000 in
/-- zzEverySyncInPlace: the model. -/
theorem sync_any (b off len cap : Nat) (zs : List Int) (w : World) (hl : len ≤ 1048576) (hc : ∀ j, j < len → w.cell? ⟨b, off + j, none⟩ = some (.int .u8 (zs.getD j 0))) :
    Calls Try.prog 15 #[.slice (some ⟨b, off, none⟩) len cap] w fun e w' => e = .returned (.bool (syncB len zs)) ∧ w' = w := by
  by_cases hs : len < 376
  · rw [syncB_short hs]
    clear hc
    go_enter Try.func15, Try.ntmps15
    go_wp2
    go_ret
    exact ⟨rfl, rfl⟩
  · have HC : Hid (∀ j, j < len → w.cell? ⟨b, off + j, none⟩ = some (.int .u8 (zs.getD j 0))) := hc
    clear hc
    go_enter Try.func15, Try.ntmps15
    go_wp2
    go_loop [3] (fun i => ∃ m : Nat, m ≤ len ∧ i = .int .i64 m ∧ Hid (∀ j, j < m → j % 188 = 0 → zs.getD j 0 = 71)) (fun i => len - (intOf i).toNat)
    case atStart => exact ⟨0, by omega, rfl, fun j hj => by omega⟩
    case round =>
      obtain ⟨m, hk, rfl, HA⟩ := hrel
      by_cases hlt : m < len
      · by_cases h188 : m % 188 = 0
        · have hcm := HC.out m hlt
          obtain ⟨z, hzz⟩ : ∃ z, z = zs.getD m 0 := ⟨_, rfl⟩
          rw [← hzz] at hcm
          have HZ : Hid (z = zs.getD m 0) := hzz
          clear hzz
          have hb : ((m : Int) % 188 == 0) = true := by rw [beq_iff_eq]; omega
          have H1 : Hid (m % 188 = 0) := h188
          clear h188
          by_cases hz : z = 71
          · subst hz
            go_wp2
            go_round
            case rel => exact ⟨m + 1, by omega, by go_num, more_one HA.out (fun _ => HZ.out.symm)⟩
            case measure => simp [intOf]; omega
          · have hzb : (z != 71) = true := by simpa using hz
            have HN : Hid (¬ z = 71) := hz
            clear hz
            go_wp2
            go_ret
            exact ⟨ret_bool (syncB_miss hlt H1.out (by rw [← HZ.out]; exact HN.out)).symm, rfl⟩
        · have hb : ((m : Int) % 188 == 0) = false := by rw [beq_eq_false_iff_ne]; omega
          have H1 : Hid (¬ m % 188 = 0) := h188
          clear h188
          go_wp2
          go_round
          case rel => exact ⟨m + 1, by omega, by go_num, more_one HA.out (fun h => absurd h H1.out)⟩
          case measure => simp [intOf]; omega
      · go_wp2
        go_ret
        exact ⟨ret_bool (syncB_all (by omega) (fun j hj => HA.out j (by omega))).symm, rfl⟩
end Go.Proofs.Qxb6603128a
