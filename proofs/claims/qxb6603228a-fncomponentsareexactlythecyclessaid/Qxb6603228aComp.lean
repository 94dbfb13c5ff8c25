/-
  components, walked.
-/
import Derived.Test.Qxb6603228aCompR
namespace Go.Proofs.Qxb6603228a
open Go.RowKit Tj

/-- What components leaves: the components' rows, in blocks of its own. -/
def Comped (A : Nat → List Nat) (n : Nat) (w : World) (e : Ending) (w' : World) : Prop :=
  ∃ C v, e = .returned v ∧ CompsOK A n C ∧ RowsAt w' (fun b => w.heap.size ≤ b ∧ b < w'.heap.size) v (C.map castL) ∧ Below w.heap.size w w'

theorem OM.rows {N : Nat} {vs vw vf vc : Value} {stk : List Nat} {wlk : List (Nat × Nat)} {fnd : List Nat} {cmp : List (List Nat)} {wr : World} (h : OM N vs vw vf vc stk wlk fnd cmp wr) : RowsAt wr (fun b => N ≤ b ∧ b < wr.heap.size) vc (cmp.map castL) := by
  obtain ⟨us, h1, h2⟩ := h.cmp
  rcases h1.2 with ⟨hv, h0⟩ | ⟨g, cap, cur, hv, hg, _⟩
  · refine ⟨none, 0, by rw [hv, List.length_map, h0], fun h3 => ?_⟩
    rw [List.length_map] at h3
    omega
  · refine ⟨some ⟨g, 0, none⟩, cap, by rw [hv, List.length_map], fun _ => ⟨g, 0, rfl, ⟨by omega, ?_⟩, fun i hi => ?_⟩⟩
    · exact (h1.lt g (by rw [hv]; rfl)).2
    · rw [List.length_map] at hi
      obtain ⟨u, h3, h4⟩ := h2 i hi
      refine ⟨u, ?_, ?_⟩
      · have h5 := h1
        rw [hv] at h5
        rw [Nat.zero_add, h5.cellAt i (by omega), h3]
      · have e : (cmp.map castL).getD i [] = castL (cmp.getD i []) := by
          simp only [List.getD_eq_getElem?_getD, List.getElem?_map]
          cases cmp[i]? <;> simp [castL]
        rw [e]
        exact h4.keep (fun _ _ => rfl) (fun b hb => ⟨by have := hb.1; omega, hb.2.1⟩)

set_option maxHeartbeats 1000000 in
set_option maxRecDepth 100000 in
theorem comps_any (v : Value) (A : Nat → List Nat) (n : Nat) (w : World) (hn : n ≤ 4096) (hdeg : ∀ u, u < n → (A u).length ≤ 1048576) (hir : ∀ u, u < n → ∀ x ∈ A u, x < n) (hO : OutAt w (Lt w.heap.size) v A n) : Calls Try.prog 30 #[v] w fun e w' => Comped A n w e w' := by
  obtain ⟨a, cap, rfl, hO⟩ := hO
  have HO : Hid (Outs A n w.heap.size a w) := ⟨hO, hdeg, hir⟩
  clear hO hdeg hir
  have hmk29 := run_make_row' (P := Try.prog) 29 3 (.int .i64 0) 8 Try.underlying29 info3 rfl .i64 .i64 n (by omega) (by omega)
  have hmk31 := run_make_row' (P := Try.prog) 31 4 (.bool false) 1 Try.underlying31 info4 rfl .i64 .i64 n (by omega) (by omega)
  have H0 := CM.init w n
  go_enter Try.func30, Try.ntmps30
  go_wp2_with fail
  simp only [Nat.add_assoc, Nat.reduceAdd] at H0 ⊢
  have HC : Hid (CM w.heap.size w n St.init (.slice none 0 0) (.slice none 0 0) (.slice none 0 0) (.slice none 0 0) [] _) := H0
  clear H0 hmk29 hmk31
  generalize (((((((((w.alloc (.cells (madeCells #[.int .i64 0] n) 3)).alloc (.cells #[.slice (some ⟨w.heap.size, 0, none⟩) n n] 29)).alloc (.cells (madeCells #[.int .i64 0] n) 3)).alloc (.cells #[.slice (some ⟨w.heap.size + 2, 0, none⟩) n n] 29)).alloc
      (.cells (madeCells #[.bool false] n) 4)).alloc (.cells #[.slice (some ⟨w.heap.size + 4, 0, none⟩) n n] 31)).alloc (.cells #[.slice none 0 0] 29)).alloc (.cells #[.slice none 0 0] 73)).alloc (.cells #[.int .i64 0] 3)) = w9 at HC ⊢
  obtain ⟨N, hN⟩ : ∃ N, N = w.heap.size := ⟨_, rfl⟩
  rw [← hN] at HC HO ⊢
  have HN : Hid (N = w.heap.size) := hN
  clear hN
  go_loopg [7, 8, 30] n (fun gk v7 v8 v30 wr => ∃ (r : Nat) (vf vc : Value), r ≤ n ∧ gk = n - r ∧ v30 = .int .i64 r ∧ vf = v7 ∧ vc = v8 ∧ Hid (∃ s vs vw fnd, TGood A n r s ∧ s.wlk = [] ∧ CM N w n s vs vw vf vc fnd wr))
  case atStart => exact ⟨0, _, _, Nat.zero_le _, by omega, rfl, rfl, rfl, _, _, _, _, TGood.init A n, rfl, HC.out⟩
  case round =>
    obtain ⟨r, vf, vc, hr, hgk, rfl, hv7, hv8, H1⟩ := hrel
    subst hv7
    subst hv8
    by_cases hlt : r < n
    · obtain ⟨s, vs, vw, fnd, hG, hW, hC⟩ := H1.out
      have c1 := hC.fm.bidx.cell
      have ci := hC.fm.idx.cell hlt
      unfold enc at ci
      have HG : Hid (TGood A n r s ∧ s.wlk = [] ∧ CM N w n s vs vw vf vc fnd wr) := ⟨hG, hW, hC⟩
      clear hG hW hC H1 HC
      obtain ⟨ir, hir⟩ : ∃ ir, ir = s.idx r := ⟨_, rfl⟩
      rw [← hir] at ci
      have HIR : Hid (ir = s.idx r) := hir
      clear hir
      by_cases h0 : ir = 0
      · subst h0
        go_wp2_with fail
        refine (visit_any N n s.idx s.low (fun i => decide (i ∈ s.stk)) s.cnt vs vw vf vc s.stk s.wlk fnd s.cmp r _ hlt (by have := HG.out.1.cnt_le; omega) (by have := HG.out.1.inv.stk_len; omega) (by have := HG.out.1.inv.wlk_len; omega) HG.out.2.2.fm HG.out.2.2.om).mono ?_
        rintro e w1 hV
        have he : e = .returned (.tuple #[]) := hV.1
        subst he
        have H2 : Hid (∃ s vs vw, TGood A n (r + 1) s ∧ CM N w n s vs vw vf vc fnd w1) := by
          have hw0 := HG.out.2.1
          have hc : Tj.Comes A s.wlk r := .inl hw0
          have hadv : adv s.wlk = s.wlk := by rw [hw0]; rfl
          obtain ⟨g, c, g', c', hC⟩ := CM.visited HG.out.2.2.below (by rw [hadv]; exact hV)
          have hG := HG.out.1.visit hlt HIR.out.symm hc
          refine ⟨_, _, _, ⟨hG.inv, hG.cnt, fun x hx => ?_, hG.few⟩, hC⟩
          by_cases e : x < r
          · exact hG.old x e
          · obtain rfl : x = r := by omega
            show upd s.idx x (s.cnt + 1) x ≠ 0
            rw [upd_same]; omega
        clear hV HG HIR c1 ci
        obtain ⟨s1, vs1, vw1, hG1, hC1⟩ := H2.out
        have H3 : Hid (TGood A n (r + 1) s1 ∧ CM N w n s1 vs1 vw1 vf vc fnd w1) := ⟨hG1, hC1⟩
        clear hG1 hC1 H2
        go_wp2_with fail
        go_loopg [7, 8] (mu A n s1) (fun k2 v7 v8 wq => Rel2 A n r N w k2 v7 v8 wq)
        case atStart => exact ⟨s1, vs1, vw1, fnd, rfl, H3.out.1, H3.out.2⟩
        case round =>
          clear H3
          rename_i J K hJ hK
          obtain ⟨vf, vc, h7, h8, hrel⟩ : ∃ vf vc, vf = _ ∧ vc = _ ∧ Rel2 A n r N w gk vf vc wr := ⟨_, _, rfl, rfl, hrel⟩
          subst h7
          subst h8
          obtain ⟨s, vs, vw, fnd, hmu, hG, hC⟩ := hrel
          cases hW : s.wlk with
          | cons f rest =>
            obtain ⟨v, k⟩ := f
            exact round_any _ _ _ _ _ _ _ _ _ _ _ _ _ _ _ _ _ _ _ _ _ _ _ _ _ _ _ _ _ _ _ _ _ _ _ _ _ _ _ _ _ _ _ _ _ _ _ _ _ _ _ _ _ _ _ _ _ _ _ _ _ _ _ _ _ _ _ _ _ _ _ _ _ _ _ _ _ _ _ _ _ _ _ _ _ _ _ _ _ _ _ _ _ _ _ _ _ _ _ _ _ _ _ _ _ _ _ _ _ _ _ _ _ _ _ _ _ _ _ _ _ _ _ _ _ _ _ _ _ _ _ _ _ _ _ _ _ _ _ _ _ _ _ _ _ _ _ _ _ _ _ _ _ _ _ _ _ _ _ _ _ _ _ _ _ _ _ _ _ _ _ _ _ _ _ _ _ _ _ _ _ _ _ _ _ _ _ _ _ _ _ _ _ _ _ _ _ _ rfl _ _ _ _ _ _ hJ hK hn HO.out hmu hG hW hC
          | nil =>
            have HM : Hid (gk = mu A n s ∧ TGood A n (r + 1) s ∧ CM N w n s vs vw vf vc fnd wr) := ⟨hmu, hG, hC⟩
            clear hmu hG hC
            have c7 := HM.out.2.2.fm.bwlk.cell
            have hvw : vw = .slice none 0 0 ∨ ∃ g c, vw = .slice (some ⟨g, 0, none⟩) 0 c := by
              have ho := HM.out.2.2.om.wlk
              rw [hW] at ho
              rcases ho.2 with ⟨h1, _⟩ | ⟨g, c, cur, h1, _⟩
              · exact .inl h1
              · exact .inr ⟨g, c, h1⟩
            have HW : Hid (s.wlk = []) := hW
            clear hW
            rcases hvw with hvw | ⟨g, c, hvw⟩
            · rw [hvw] at c7
              clear hvw
              go_wp2
              go_roundg (n - (r + 1))
              case measure => omega
              case rel => exact ⟨r + 1, vf, vc, by omega, rfl, by go_num, rfl, rfl, s, vs, vw, fnd, HM.out.2.1, HW.out, HM.out.2.2⟩
            · rw [hvw] at c7
              clear hvw
              go_wp2
              go_roundg (n - (r + 1))
              case measure => omega
              case rel => exact ⟨r + 1, vf, vc, by omega, rfl, by go_num, rfl, rfl, s, vs, vw, fnd, HM.out.2.1, HW.out, HM.out.2.2⟩
      · have h0' : ((ir : Int) != 0) = true := by rw [bne_iff_ne]; omega
        go_wp2
        go_roundg (n - (r + 1))
        case measure => omega
        case rel =>
          refine ⟨r + 1, vf, vc, by omega, rfl, by go_num, rfl, rfl, s, vs, vw, fnd, ⟨HG.out.1.inv, HG.out.1.cnt, fun x hx => ?_, HG.out.1.few⟩, HG.out.2.1, HG.out.2.2⟩
          by_cases e : x < r
          · exact HG.out.1.old x e
          · obtain rfl : x = r := by omega
            rw [← HIR.out]; exact h0
    · go_wp2
      go_ret
      obtain ⟨s, vs, vw, fnd, hG, hW, hC⟩ := H1.out
      have er : r = n := by omega
      subst er
      have hNe := HN.out
      refine ⟨s.cmp, vc, rfl, hG.inv.comps hW hG.old, ?_, ?_⟩
      · rw [← hNe]; exact hC.om.rows
      · rw [← hNe]; exact hC.below
end Go.Proofs.Qxb6603228a
