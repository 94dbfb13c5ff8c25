/-
  reachAll, walked.
-/
import Derived.Test.Qxb6603228aReachM
import Derived.Test.Qxb6603228aCopy
import Derived.Maps.AppendAt
namespace Go.Proofs.Qxb6603228a
open Go.RowKit Tj

theorem info31 : (Try.prog.info? 31).map (fun i => (i.zero, i.size, i.bytes)) = some (some (.slice none 0 0), 1, 24) := by kernel_rfl

/-- What reachAll leaves: row s marks what s reaches. -/
def Reached (A : Nat → List Nat) (w : World) (n : Nat) (e : Ending) (w' : World) : Prop :=
  e = .returned (.slice (some ⟨w.heap.size, 0, none⟩) n n) ∧ Below w.heap.size w w' ∧
  ∃ F : Nat → Value, w'.rowIs w.heap.size 31 n F ∧ ∀ i, i < n → ∃ (b : Nat) (f : Nat → Bool), F i = .slice (some ⟨b, 0, none⟩) n n ∧ w.heap.size < b ∧ w'.rowIs b 4 n (fun v => .bool (f v)) ∧ ∀ x, f x = true ↔ Tj.Reach A i x

set_option maxHeartbeats 1000000 in
set_option maxRecDepth 100000 in
theorem reachAll_any (v : Value) (Z : List (List Int)) (w : World) (hl : Z.length ≤ 4096) (hs : Short Z) (hir : InRange Z) (hrow : RowsAt w (Lt w.heap.size) v Z) : Calls Try.prog 15 #[v] w fun e w' => Reached (graph Z) w Z.length e w' := by
  obtain ⟨a, cap, rfl, hrow⟩ := hrow
  obtain ⟨n, hLe⟩ : ∃ n, n = Z.length := ⟨_, rfl⟩
  rw [← hLe] at hl hrow ⊢
  have HL : Hid (n = Z.length ∧ (0 < n → ∃ b off, a = some ⟨b, off, none⟩ ∧ Lt w.heap.size b ∧ ∀ r, r < n → ∃ u, w.cell? ⟨b, off + r, none⟩ = some u ∧ RowAt w (Lt w.heap.size) u (Z.getD r [])) ∧ (∀ r, r < n → (Z.getD r []).length ≤ 1048576) ∧ InRange Z) := ⟨hLe, hrow, fun r hr => hs r (hLe ▸ hr), hir⟩
  clear hLe hrow hs hir
  obtain ⟨i3, hi3, hz3, hs3, hb3⟩ := info_parts info3
  have hmk27 := run_make_row' (P := Try.prog) 27 31 (.slice none 0 0) 24 Try.underlying27 info31 rfl .i64 .i64 n (by omega) (by omega)
  have hmk29 : ∀ w, (Instr.makeSlice 29 (.int .i64 0) (.int .i64 (n : Int))).run Try.prog w = .ok (.slice (some ⟨w.heap.size, 0, none⟩) 0 n) (w.alloc (.cells (madeCells #[.int .i64 0] n) 3)) := by
    intro w
    have := run_make (P := Try.prog) w 29 3 i3 (.int .i64 0) Try.underlying29 hi3 hz3 .i64 .i64 0 (n : Int) (by omega) (by omega) (by rw [hb3]; omega) (by omega)
    rw [hs3] at this
    simpa [Value.cells] using this
  go_enter Try.func15, Try.ntmps15
  go_wp2
  go_loopg [5, 6] n (fun gk v5 v6 wr => ∃ s g c L : Nat, s ≤ n ∧ gk = n - s ∧ v6 = .int .i64 s ∧ v5 = .slice (some ⟨g, 0, none⟩) L c ∧ w.heap.size < wr.heap.size ∧ Hid (DO (graph Z) w n s g c L wr))
  case atStart => exact ⟨0, _, _, 0, Nat.zero_le _, by omega, rfl, rfl, by simp; omega, DO.start _ w n (by omega)⟩
  case round =>
    obtain ⟨s, g, c, L, hsn, hgk, rfl, rfl, hsz, HD⟩ := hrel
    clear hmk27 hmk29
    by_cases hlt : s < n
    · obtain ⟨gs, hgs⟩ : ∃ gs, wr.heap.size = gs := ⟨_, rfl⟩
      have hmk31 := run_make_row' (P := Try.prog) 31 4 (.bool false) 1 Try.underlying31 info4 rfl .i64 .i64 n (by omega) (by omega)
      have hmc : (madeCells #[Value.bool false] n)[s]? = some (.bool false) := by simp [madeCells, hlt, Nat.mod_one]
      have HS0 : Hid (wr.ownsRow (w.heap.size + 1) 3 1 (.slice (some ⟨g, 0, none⟩) 0 c) 0 []) := by
        obtain ⟨xs, hx⟩ := HD.out.stack
        have h0 := ownsRow_cut hx (k := 0) (Nat.zero_le _)
        simp only [Nat.zero_mul, List.take_zero] at h0
        exact h0
      go_wp2_with (at_builtin; (refine wpList_append_out _ rfl (.tmp 29) (.tmp 31) 29 rfl (w.heap.size + 1) 3 i3 (.int .i64 0) 1 8 Try.underlying29 hi3 hz3 hs3 hb3 rfl (by decide) _ 0 [] rfl ((HS0.out.alloc _).alloc _) ⟨gs + 1, 0, none⟩ 1 1 [.int .i64 (s : Int)] rfl rfl ?c1 ?c2 (by omega) ?c3 ?c4 ?c5 ?c6))
      case c1 => intro j u hj; match j, hj with | 0, hj => simp at hj; subst hj; subst hgs; simp [Addr.add]
      case c2 => intro u hu; simp at hu; subst hu; rfl
      case c3 => unfold maxLen; omega
      case c4 => omega
      case c5 => simp; omega
      intro g2 c2 w2 hown2 hgrow2 hblk2
      have HM : Hid (DM (graph Z) w n s gs (upd (fun _ => false) s true) g2 c2 [s] w2) := by subst hgs; exact HD.out.begin hlt hown2 hgrow2
      have H0 : Hid (left (upd (fun _ => false) s true) n + 1 = n) := by
        have h1 := left_in (seen := fun _ => false) (t := s) rfl hlt
        rw [left_all] at h1
        exact h1
      have hsz2 : w.heap.size < w2.heap.size := Nat.lt_of_lt_of_le (by simp; omega) hgrow2.size
      clear hown2 hgrow2 hblk2 HS0 hmk31 hmc HD hsz hgs
      go_wp2
      go_loopg [5] n (fun k2 v5 wq => ∃ (g3 c3 : Nat) (stk : List Nat), v5 = .slice (some ⟨g3, 0, none⟩) stk.length c3 ∧ w.heap.size < wq.heap.size ∧ Hid (∃ seen, k2 = left seen n + stk.length ∧ ROut (graph Z) n s seen stk ∧ DM (graph Z) w n s gs seen g3 c3 stk wq))
      case atStart => exact ⟨g2, c2, [s], rfl, hsz2, _, H0.out.symm, rout_start hlt, HM.out⟩
      case round =>
        obtain ⟨g3, c3, stk, rfl, hsz3, H2⟩ := hrel
        clear HM H0 hsz2
        cases stk with
        | nil =>
          obtain ⟨seen, hk2, hR, hD⟩ := H2.out
          obtain ⟨F, hF, _⟩ := hD.outer
          have hcs := hF.cell hlt
          have hfs := hF.frozen s
          have HN : Hid (DO (graph Z) w n (s + 1) g3 c3 0 (wr.setCell ⟨w.heap.size, s, none⟩ (.slice (some ⟨gs, 0, none⟩) n n))) := hD.done (fun x => rout_end hR x)
          clear hk2 hR hD hF
          go_wp2
          go_roundg (n - (s + 1))
          case measure => omega
          case rel => exact ⟨s + 1, g3, c3, 0, by omega, rfl, by go_num, rfl, by simpa using hsz3, HN.out⟩
        | cons u r =>
          obtain ⟨seen0, hk2, hR0, hD0⟩ := H2.out
          have hun : u < n := (hR0.sound u (hR0.onst u List.mem_cons_self)).1
          obtain ⟨b, off, hA, hbl, hcc⟩ := HL.out.2.1 (by omega)
          obtain ⟨uv, huv, au, cu, rfl, hur⟩ := hcc u hun
          have hLu := HL.out.2.2.1 u hun
          have hix := fun w => at22 (cap := cap) (w := w) hA hun
          have hcu : wr.cell? ⟨b, off + u, none⟩ = some (.slice au (Z.getD u []).length cu) := (hD0.below.cell (by exact hbl)).trans huv
          have htop := hD0.top
          have hcap : r.length + 1 ≤ c3 := ownsRow_cap hD0.stack
          have HI : Hid (RIn (graph Z) n s seen0 r u 0 (left seen0 n + r.length) ∧ DM (graph Z) w n s gs seen0 g3 c3 r wr ∧ gk = left seen0 n + r.length + 1 ∧ left seen0 n + r.length ≤ n) := ⟨rin_start hR0, hD0.pop, by rw [hk2]; simp; omega, by have := hR0.size; simp at this; omega⟩
          have HU : Hid (0 < (Z.getD u []).length → ∃ b off, au = some ⟨b, off, none⟩ ∧ Lt w.heap.size b ∧ ∀ j, j < (Z.getD u []).length → w.cell? ⟨b, off + j, none⟩ = some (.int .i64 ((Z.getD u []).getD j 0))) := hur
          have hrl : r.length ≤ 4096 := by have := HI.out.2.2.2; omega
          clear hA hbl hcc huv hur hk2 hR0 hD0 H2
          obtain ⟨M, hM⟩ : ∃ M, M = (Z.getD u []).length := ⟨_, rfl⟩
          rw [← hM] at hcu HU hLu
          have HMM : Hid (M = (Z.getD u []).length) := hM
          clear hM
          go_wp2
          go_loopg [5, 52] M (fun k3 v5 v52 wx => ∃ (g4 c4 j : Nat) (stk : List Nat), j ≤ M ∧ k3 = M - j ∧ v52 = .int .i64 j ∧ v5 = .slice (some ⟨g4, 0, none⟩) stk.length c4 ∧ w.heap.size < wx.heap.size ∧ Hid (∃ seen, RIn (graph Z) n s seen stk u j (left seen0 n + r.length) ∧ DM (graph Z) w n s gs seen g4 c4 stk wx))
          case atStart => exact ⟨g3, c3, 0, r, Nat.zero_le _, by omega, rfl, rfl, hsz3, seen0, HI.out.1, HI.out.2.1⟩
          case round =>
            obtain ⟨g4, c4, j, stk, hjM, hgk3, rfl, rfl, hsz4, H3⟩ := hrel
            clear htop hcap hix hcu
            obtain ⟨seen, hR, hD⟩ := H3.out
            by_cases hjl : j < M
            · obtain ⟨b2, off2, hA2, hb2, hc2⟩ := HU.out (by omega)
              have hix2 := fun w => at29 (cap := cu) (w := w) hA2 hjl
              obtain ⟨v, hgv, hzv, hvn⟩ := graph_at HL.out.2.2.2 (show u < Z.length by rw [← HL.out.1]; exact hun) (show j < (Z.getD u []).length by rw [← HMM.out]; exact hjl)
              have hcj : wr.cell? ⟨b2, off2 + j, none⟩ = some (.int .i64 (v : Int)) := by rw [← hzv]; exact (hD.below.cell (by exact hb2)).trans (hc2 j hjl)
              rw [← HL.out.1] at hvn
              have hcs := hD.mark.cell hvn
              have hfs := hD.mark.frozen v
              have hstl : stk.length ≤ 4096 := by have := hR.size; have := HI.out.2.2.2; omega
              have HG : Hid ((graph Z u)[j]? = some v ∧ RIn (graph Z) n s seen stk u j (left seen0 n + r.length) ∧ DM (graph Z) w n s gs seen g4 c4 stk wr) := ⟨hgv, hR, hD⟩
              clear hA2 hb2 hc2 hgv hzv hR hD H3
              cases hsv : seen v with
              | true =>
                rw [hsv] at hcs
                have HSV : Hid (seen v = true) := hsv
                clear hsv
                go_wp2
                go_roundg (M - (j + 1))
                case measure => omega
                case rel => exact ⟨g4, c4, j + 1, stk, by omega, rfl, by go_num, rfl, hsz4, seen, rin_skip HG.out.2.1 HG.out.1 HSV.out, HG.out.2.2⟩
              | false =>
                rw [hsv] at hcs
                have HSV : Hid (seen v = false) := hsv
                have HP : Hid (DM (graph Z) w n s gs (upd seen v true) g4 c4 stk ((wr.setCell ⟨gs, v, none⟩ (.bool true)).alloc (.cells #[.int .i64 (v : Int)] 3))) := (HG.out.2.2.put v).alloc _
                clear hsv
                go_wp2_with (at_builtin; (refine wpList_append_out _ rfl (.tmp 64) (.tmp 66) 29 rfl (w.heap.size + 1) 3 i3 (.int .i64 0) 1 8 Try.underlying29 hi3 hz3 hs3 hb3 rfl (by decide) _ stk.length (stk.reverse.map enc) rfl HP.out.stack ⟨wr.heap.size, 0, none⟩ 1 1 [.int .i64 (v : Int)] rfl rfl ?d1 ?d2 (by omega) ?d3 ?d4 ?d5 ?d6))
                case d1 => exact news_one _ _ (by simp) _ _
                case d2 => intro u hu; simp at hu; subst hu; rfl
                case d3 => unfold maxLen; omega
                case d4 => omega
                case d5 => simp; omega
                intro g5 c5 w5 hown5 hgrow5 _
                rw [← List.map_reverse] at hown5
                have HQ : Hid (DM (graph Z) w n s gs (upd seen v true) g5 c5 (v :: stk) w5) := HP.out.push hown5 hgrow5
                have hsz5 : w.heap.size < w5.heap.size := Nat.lt_of_lt_of_le (by simp; omega) hgrow5.size
                clear hown5 hgrow5 HP
                go_wp2
                go_roundg (M - (j + 1))
                case measure => omega
                case rel => exact ⟨g5, c5, j + 1, v :: stk, by omega, rfl, by go_num, rfl, hsz5, _, rin_push HG.out.2.1 HG.out.1 HSV.out hvn, HQ.out⟩
            · have HE : Hid (ROut (graph Z) n s seen stk ∧ left seen n + stk.length ≤ left seen0 n + r.length ∧ DM (graph Z) w n s gs seen g4 c4 stk wr) := ⟨rin_done hR (by rw [graph_len, ← HMM.out]; omega) HI.out.2.2.2, hR.size, hD⟩
              clear hR hD H3
              go_wp2
              go_roundg (left seen n + stk.length)
              case measure => have := HE.out.2.1; have := HI.out.2.2.1; omega
              case rel => exact ⟨g4, c4, stk, rfl, hsz4, seen, rfl, HE.out.1, HE.out.2.2⟩
    · have hsn' : s = n := by omega
      have HS : Hid (s = n) := hsn'
      clear hsn'
      go_wp2
      go_ret
      obtain ⟨F, hF, hrows⟩ := HD.out.outer
      refine ⟨rfl, HD.out.below, F, hF, fun i hi => ?_⟩
      obtain ⟨b, f, h1, h2, _, h4, h5⟩ := hrows i (by rw [HS.out]; exact hi)
      exact ⟨b, f, h1, h2, h4, h5⟩
end Go.Proofs.Qxb6603228a
