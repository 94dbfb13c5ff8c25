/-
  The copy: 'make', then a loop of stores into the new row.
-/
import Derived.Test.Qxb6603128aWalk
namespace Go.Proofs.Qxb6603128a
open Go.RowKit

theorem nil22 (w : World) (a : Option Addr) (n c n' c' : Nat) : (binOp .eql 22 (.slice a n c) (.slice none n' c')).run Try.prog w = .ok (.bool a.isNone) w := Lib.run_eql_slice_nil w _ _ a n c n' c' Try.underlying22

set_option maxHeartbeats 400000 in
set_option maxRecDepth 100000 in
theorem copy_nil (w : World) : Calls Try.prog 9 #[.slice none 0 0] w fun e w' => e = .returned (.slice none 0 0) ∧ w' = w := by
  have hn := nil22
  go_enter Try.func9, Try.ntmps9
  go_wp2
  go_ret
  exact ⟨rfl, rfl⟩

/-- What the loop's relation says of the new row behind m rounds. -/
def half (zs : List Int) (m : Nat) (i : Nat) : Value := .int .u8 (if i < m then zs.getD i 0 else 0)

theorem half_step {wr : World} {N len m : Nat} {zs : List Int} (h : wr.rowIs N 5 len (half zs m)) : (wr.setCell ⟨N, m, none⟩ (.int .u8 (zs.getD m 0))).rowIs N 5 len (half zs (m + 1)) :=
  (h.set m _).congr fun i hi => by
    unfold half
    by_cases e : i = m
    · subst e; rw [if_pos rfl, if_pos (by omega)]
    · rw [if_neg e]
      by_cases e2 : i < m
      · rw [if_pos e2, if_pos (by omega)]
      · rw [if_neg e2, if_neg (by omega)]

set_option maxHeartbeats 400000 in
set_option maxRecDepth 100000 in
theorem copy_some (b off len cap : Nat) (zs : List Int) (w : World) (hl : len ≤ 1048576) (hb : b < w.heap.size) (hc : ∀ j, j < len → w.cell? ⟨b, off + j, none⟩ = some (.int .u8 (zs.getD j 0))) :
    Calls Try.prog 9 #[.slice (some ⟨b, off, none⟩) len cap] w fun e w' => e = .returned (.slice (some ⟨w.heap.size, 0, none⟩) len len) ∧ Below w.heap.size w w' ∧ w'.rowIs w.heap.size 5 len (fun i => .int .u8 (zs.getD i 0)) := by
  have HC : Hid (∀ j, j < len → w.cell? ⟨b, off + j, none⟩ = some (.int .u8 (zs.getD j 0))) := hc
  clear hc
  have hmk := run_make_row' (P := Try.prog) 22 5 (.int .u8 0) 1 Try.underlying22 info5 rfl .i64 .i64 len (by omega) (by omega)
  have hn := nil22
  go_enter Try.func9, Try.ntmps9
  go_wp2
  go_loopw [4] (fun i wr => ∃ m : Nat, m ≤ len ∧ i = .int .i64 m ∧ Hid (wr.rowIs w.heap.size 5 len (half zs m) ∧ Below w.heap.size w wr)) (fun i _ => len - (intOf i).toNat)
  case atStart => exact ⟨0, Nat.zero_le _, rfl, (World.rowIs_made _ _ _ _).congr (fun i _ => by simp [half]), (Below.refl _ _).alloc (Nat.le_refl _) _⟩
  case round =>
    obtain ⟨m, hk, rfl, HR⟩ := hrel
    clear hmk hn
    by_cases hlt : m < len
    · have hcm : wr.cell? ⟨b, off + m, none⟩ = some (.int .u8 (zs.getD m 0)) := (HR.out.2.cell (by exact hb)).trans (HC.out m hlt)
      have hcn := HR.out.1.cell hlt
      have hcf := HR.out.1.frozen m
      obtain ⟨z, hzz⟩ : ∃ z, z = zs.getD m 0 := ⟨_, rfl⟩
      rw [← hzz] at hcm
      have HZ : Hid (z = zs.getD m 0) := hzz
      clear hzz
      unfold half at hcn
      go_wp2
      go_roundw
      case rel => exact ⟨m + 1, by omega, by go_num, by rw [HZ.out]; exact half_step HR.out.1, HR.out.2.setCell (Nat.le_refl _) _⟩
      case measure => simp [intOf]; omega
    · go_wp2
      go_ret
      exact ⟨rfl, HR.out.2, HR.out.1.congr fun i hi => by unfold half; rw [if_pos (by omega)]⟩
end Go.Proofs.Qxb6603128a
