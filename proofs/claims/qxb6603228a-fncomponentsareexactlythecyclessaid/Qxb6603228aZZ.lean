/-
  ZZComponents, walked.
-/
import Derived.Test.Qxb6603228aZZM
namespace Go.Proofs.Qxb6603228a
open Go.RowKit Tj

set_option maxHeartbeats 1000000 in
set_option maxRecDepth 100000 in
theorem zz_any (v : Value) (Z : List (List Int)) (w : World) (hl : Z.length ≤ 4096) (hs : Short Z) (hir : InRange Z) (hrow : RowsAt w (Lt w.heap.size) v Z) : Calls Try.prog 12 #[v] w fun e w' => Comped (graph Z) Z.length w e w' := by
  obtain ⟨a, cap, rfl, hrow⟩ := hrow
  obtain ⟨n, hLe⟩ : ∃ n, n = Z.length := ⟨_, rfl⟩
  rw [← hLe] at hl hrow ⊢
  have HL : Hid (n = Z.length ∧ (0 < n → ∃ b off, a = some ⟨b, off, none⟩ ∧ Lt w.heap.size b ∧ ∀ r, r < n → ∃ u, w.cell? ⟨b, off + r, none⟩ = some u ∧ RowAt w (Lt w.heap.size) u (Z.getD r [])) ∧ (∀ r, r < n → (Z.getD r []).length ≤ 1048576) ∧ InRange Z) := ⟨hLe, hrow, fun r hr => hs r (hLe ▸ hr), hir⟩
  clear hLe hrow hs hir
  have hmk := run_make_row' (P := Try.prog) 46 47 (.slice none 0 0) 24 Try.underlying46 info47 rfl .i64 .i64 n (by omega) (by omega)
  go_enter Try.func12, Try.ntmps12
  go_wp2
  go_loopg [14] n (fun gk v14 wr => ∃ m : Nat, m ≤ n ∧ gk = n - m ∧ v14 = .int .i64 m ∧ w.heap.size < wr.heap.size ∧ Hid (Deps w n Z m wr))
  case atStart => exact ⟨0, Nat.zero_le _, by omega, rfl, by simp, Deps.start w n Z⟩
  case round =>
    obtain ⟨r, hk, hgk, rfl, hsz, HR⟩ := hrel
    clear hmk
    by_cases hlt : r < n
    · obtain ⟨b, off, hA, hbl, hcc⟩ := HL.out.2.1 (by omega)
      obtain ⟨u, hu, hur⟩ := hcc r hlt
      have hcm : wr.cell? ⟨b, off + r, none⟩ = some u := (HR.out.below.cell (by exact hbl)).trans hu
      have hix := fun w => at22 (cap := cap) (w := w) hA hlt
      have hur' : RowAt wr (Lt wr.heap.size) u (Z.getD r []) := hur.below HR.out.below (by omega)
      obtain ⟨au, cu, hue, hcells⟩ := hur'
      clear hA hbl hcc hu hur
      obtain ⟨m, hm⟩ : ∃ m, m = (Z.getD r []).length := ⟨_, rfl⟩
      rw [← hm] at hue hcells
      subst hue
      have hml : m ≤ 1048576 := by rw [hm]; exact HL.out.2.2.1 r hlt
      have HX : Hid (m = (Z.getD r []).length ∧ (0 < m → ∃ b off, au = some ⟨b, off, none⟩ ∧ Lt wr.heap.size b ∧ ∀ j, j < m → wr.cell? ⟨b, off + j, none⟩ = some (.int .i64 ((Z.getD r []).getD j 0)))) := ⟨hm, hcells⟩
      clear hm hcells
      have hn := nil29
      cases ha : au with
      | none =>
        subst ha
        go_wp2
        go_roundg (n - (r + 1))
        case measure => omega
        case rel =>
          refine ⟨r + 1, by omega, rfl, by go_num, hsz, HR.out.skip ?_⟩
          rcases Nat.eq_zero_or_pos m with h | h
          · rw [← HX.out.1]; exact h
          · obtain ⟨b, off, hb, _⟩ := HX.out.2 h; cases hb
      | some x =>
        have HA : Hid (au = some x) := ha
        have hin : au.isNone = false := by rw [ha]; rfl
        clear ha
        have hmk2 := make47 m hml
        go_wp2
        obtain ⟨w0, hw0⟩ : ∃ w0, w0 = wr := ⟨_, rfl⟩
        subst hw0
        have HS0 : Hid (Making w0 m (Z.getD r []) 0 (w0.alloc (.cells (madeCells depZero (m * 4)) 49))) := Making.start w0 m _
        clear hmk2 hcm hix
        go_loopg [26] m (fun k2 v26 wq => ∃ i : Nat, i ≤ m ∧ k2 = m - i ∧ v26 = .int .i64 i ∧ w0.heap.size < wq.heap.size ∧ Hid (Making w0 m (Z.getD r []) i wq))
        case atStart => exact ⟨0, Nat.zero_le _, by omega, rfl, by simp, HS0.out⟩
        case round =>
          clear HS0
          obtain ⟨i, hi, hgk2, rfl, hszq, HQ⟩ := hrel
          by_cases hil : i < m
          · obtain ⟨b2, off2, hA2, hb2, hc2⟩ := HX.out.2 (by omega)
            obtain ⟨g, hg, hgk3, hbq⟩ := HQ.out
            have hci := (hbq.cell (p := ⟨b2, off2 + i, none⟩) hb2).trans (hc2 i hil)
            have hix2 := fun w => at29 (cap := cu) (w := w) hA2 hil
            have k0 := hg.cell (i := i * 4) (by omega)
            have k1 := hg.cell (i := i * 4 + 1) (by omega)
            have k2 := hg.cell (i := i * 4 + 2) (by omega)
            have k3 := hg.cell (i := i * 4 + 3) (by omega)
            have f0 := hg.frozen (i * 4)
            have f1 := hg.frozen (i * 4 + 1)
            have f2 := hg.frozen (i * 4 + 2)
            have f3 := hg.frozen (i * 4 + 3)
            have HS := fun a b c => HQ.out.step a b c
            obtain ⟨xi, hxi⟩ : ∃ xi, xi = (Z.getD r []).getD i 0 := ⟨_, rfl⟩
            rw [← hxi] at hci
            rw [← hxi] at HS
            clear hA2 hb2 hc2 hg hgk3 hbq hxi HQ
            have HS' : Hid (∀ a b c, Making w0 m (Z.getD r []) (i + 1) ((((wr.setCell ⟨w0.heap.size, i * 4, none⟩ a).setCell ⟨w0.heap.size, i * 4 + 1, none⟩ (.int .i64 xi)).setCell ⟨w0.heap.size, i * 4 + 2, none⟩ b).setCell ⟨w0.heap.size, i * 4 + 3, none⟩ c)) := HS
            clear HS
            go_wp2
            go_roundg (m - (i + 1))
            case measure => omega
            case rel => exact ⟨i + 1, by omega, rfl, by go_num, by simpa using hszq, HS'.out _ _ _⟩
          · have HD : Hid (DepAt wr (fun b => w0.heap.size ≤ b ∧ b < wr.heap.size) (.slice (some ⟨w0.heap.size, 0, none⟩) m m) (graph Z r) ∧ Below w0.heap.size w0 wr) := by
              refine ⟨HQ.out.done HX.out.1 (by omega) HL.out.2.2.2 (by rw [← HL.out.1]; exact hlt) ⟨Nat.le_refl _, hszq⟩, ?_⟩
              obtain ⟨g, hg, _, hbq⟩ := HQ.out
              exact hbq
            obtain ⟨F, hF, _⟩ := HR.out.row
            have hF1 : wr.rowIs w.heap.size 47 n F := hF.of_block (HD.out.2.block _ hsz)
            have hcn := hF1.cell hlt
            have hcf := hF1.frozen r
            have HS : Hid (Deps w n Z (r + 1) (wr.setCell ⟨w.heap.size, r, none⟩ (.slice (some ⟨w0.heap.size, 0, none⟩) m m))) := HR.out.step hsz HD.out.2 HD.out.1
            clear hF hF1 HQ
            go_wp2
            go_roundg (n - (r + 1))
            case measure => omega
            case rel => exact ⟨r + 1, by omega, rfl, by go_num, by simp; omega, HS.out⟩
    · have er : r = n := by omega
      subst er
      go_wp2_with fail
      have hout := HR.out.out
      refine (comps_any _ (graph Z) r wr hl (fun u hu => by rw [graph_len]; exact HL.out.2.2.1 u hu) (fun u hu x hx => by rw [HL.out.1]; exact graph_lt HL.out.2.2.2 (by rw [← HL.out.1]; exact hu) hx) hout).mono ?_
      rintro e w1 ⟨C, vC, rfl, hC, hrows, hb⟩
      have HE : Hid (CompsOK (graph Z) r C ∧ RowsAt w1 (fun b => wr.heap.size ≤ b ∧ b < w1.heap.size) vC (C.map castL) ∧ Below wr.heap.size wr w1) := ⟨hC, hrows, hb⟩
      clear hC hrows hb hout
      go_wp2
      go_ret
      refine ⟨C, vC, rfl, HE.out.1, HE.out.2.1.keep (fun _ _ => rfl) (fun b hb => ⟨by omega, hb.2⟩), HR.out.below.trans (HE.out.2.2.mono (by omega))⟩
end Go.Proofs.Qxb6603228a
