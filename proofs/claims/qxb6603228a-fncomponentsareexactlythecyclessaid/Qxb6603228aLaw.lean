/-
  The law, walked.
-/
import Derived.Test.Qxb6603228aLawM
namespace Go.Proofs.Qxb6603228a
open Go.RowKit Tj

set_option maxHeartbeats 2000000 in
set_option maxRecDepth 100000 in
theorem law_any (v : Value) (Z : List (List Int)) (w : World) (hrow : RowsAt w (Lt w.heap.size) v Z) : Calls Try.prog 3 #[v] w fun e w' => Held w e w' := by
  have HROW : Hid (RowsAt w (Lt w.heap.size) v Z) := hrow
  obtain ⟨a, cap, rfl, hrow⟩ := hrow
  obtain ⟨n, hLe⟩ : ∃ n, n = Z.length := ⟨_, rfl⟩
  rw [← hLe] at hrow HROW ⊢
  obtain ⟨b, off, hg⟩ : ∃ b off, 0 < n → (a = some ⟨b, off, none⟩ ∧ ∀ r, r < n → ∃ u, w.cell? ⟨b, off + r, none⟩ = some u ∧ RowAt w (Lt w.heap.size) u (Z.getD r [])) := by
    rcases Nat.eq_zero_or_pos n with h | h
    · exact ⟨0, 0, fun h' => by omega⟩
    · obtain ⟨b, off, h1, h2, h3⟩ := hrow h
      exact ⟨b, off, fun _ => ⟨h1, h3⟩⟩
  have HG : Hid (n = Z.length ∧ (0 < n → (a = some ⟨b, off, none⟩ ∧ ∀ r, r < n → ∃ u, w.cell? ⟨b, off + r, none⟩ = some u ∧ RowAt w (Lt w.heap.size) u (Z.getD r [])))) := ⟨hLe, hg⟩
  clear hLe hg hrow
  go_enter Try.func3, Try.ntmps3
  go_wp2_with fail
  refine (bytes_any a b off n cap Z (Lt w.heap.size) w HG.out.1 HG.out.2).mono ?_
  rintro e w1 ⟨q, rfl, rfl, hq⟩
  cases q with
  | false =>
    clear hq
    go_wp2
    go_ret
    exact ⟨rfl, Below.refl _ _⟩
  | true =>
  have hlen : n ≤ 1048576 := (hq rfl).1
  have HS : Hid (Short Z) := (hq rfl).2
  clear hq
  go_wp2_with fail
  refine (small_any a b off n cap Z (Lt w1.heap.size) w1 HG.out.1 hlen HS.out HG.out.2).mono ?_
  rintro e w2 ⟨q, rfl, rfl, _⟩
  cases q with
  | false =>
    go_wp2
    go_ret
    exact ⟨rfl, Below.refl _ _⟩
  | true =>
  by_cases h4 : 4096 < n
  · go_wp2
    go_ret
    exact ⟨rfl, Below.refl _ _⟩
  have hn : n ≤ 4096 := by omega
  clear h4
  go_wp2_with fail
  refine (inRange_any a b off n cap Z (Lt w2.heap.size) w2 HG.out.1 hlen HS.out HG.out.2).mono ?_
  rintro e w3 ⟨q, rfl, rfl, hq⟩
  cases q with
  | false =>
    clear hq
    go_wp2
    go_ret
    exact ⟨rfl, Below.refl _ _⟩
  | true =>
  have HI : Hid (InRange Z) := hq rfl
  clear hq
  go_wp2_with fail
  refine (copyAdj_any (.slice a n cap) Z w3 (by rw [← HG.out.1]; exact hlen) HS.out HROW.out).mono ?_
  rintro e w4 ⟨a4, c4, rfl, hb4, hr4⟩
  rw [← HG.out.1] at hr4 ⊢
  have H4 : Hid (Below w3.heap.size w3 w4 ∧ RowsAt w4 (Lt w4.heap.size) (.slice a4 n c4) Z) := ⟨hb4, hr4⟩
  clear hb4 hr4
  go_wp2_with fail
  refine (zz_any (.slice a4 n c4) Z w4 (by rw [← HG.out.1]; exact hn) HS.out HI.out H4.out.2).mono ?_
  rintro e w5 ⟨C, vC, rfl, hC, hrC, hb5⟩
  rw [← HG.out.1] at hC
  have hrC' := hrC
  obtain ⟨aC, cC, rfl, hcells⟩ := hrC
  obtain ⟨m, hm⟩ : ∃ m, m = C.length := ⟨_, rfl⟩
  rw [List.length_map, ← hm] at hrC' hcells ⊢
  obtain ⟨bC, offC, hgC⟩ : ∃ b off, 0 < m → (aC = some ⟨b, off, none⟩ ∧ ∀ r, r < m → ∃ u, w5.cell? ⟨b, off + r, none⟩ = some u ∧ RowAt w5 (fun b => w4.heap.size ≤ b ∧ b < w5.heap.size) u ((C.map castL).getD r [])) := by
    rcases Nat.eq_zero_or_pos m with h | h
    · exact ⟨0, 0, fun h' => by omega⟩
    · obtain ⟨b, off, h1, h2, h3⟩ := hcells h
      exact ⟨b, off, fun _ => ⟨h1, h3⟩⟩
  have H5 : Hid (CompsOK (graph Z) n C ∧ RowsAt w5 (fun b => w4.heap.size ≤ b ∧ b < w5.heap.size) (.slice aC m cC) (C.map castL) ∧ Below w4.heap.size w4 w5 ∧ m = C.length ∧
    (0 < m → (aC = some ⟨bC, offC, none⟩ ∧ ∀ r, r < m → ∃ u, w5.cell? ⟨bC, offC + r, none⟩ = some u ∧ RowAt w5 (fun b => w4.heap.size ≤ b ∧ b < w5.heap.size) u ((C.map castL).getD r [])))) := ⟨hC, hrC', hb5, hm, hgC⟩
  have hmn : m ≤ n := by
    have hM : ∀ u v, u < n → v < n → ((fun u v => @decide (Mut (graph Z) u v) (Classical.propDecidable _)) u v = true ↔ Mut (graph Z) u v) := fun u v _ _ => by simp
    rw [hm, comps_len hC hM]
    exact want_len _ _
  clear hC hrC' hcells hb5 hm hgC
  go_wp2_with fail
  refine (well_any aC bC offC m cC n (C.map castL) (fun b => w4.heap.size ≤ b ∧ b < w5.heap.size) w5 (by rw [List.length_map]; exact H5.out.2.2.2.1) (by omega) (wellF_of H5.out.1 hn) H5.out.2.2.2.2).mono ?_
  rintro e w6 ⟨rfl, k6, hw6⟩
  have H6 : Hid (Below w4.heap.size w4 w6 ∧ RowsAt w6 (Lt w6.heap.size) (.slice aC m cC) (C.map castL) ∧ CompsOK (graph Z) n C ∧ m = C.length) := by
    rw [hw6]
    obtain ⟨h1, h2, h3, h4, _⟩ := H5.out
    exact ⟨⟨h3.os, h3.tape, h3.output, h3.size, h3.block⟩, h2.keep (fun _ _ => rfl) (fun b hb => hb.2), h1, h4⟩
  clear hw6 H5
  go_wp2_with fail
  refine (reachAll_any (.slice a4 n c4) Z w6 (by rw [← HG.out.1]; exact hn) HS.out HI.out (H4.out.2.keep (fun b hb => H6.out.1.block b hb) (fun b hb => Nat.lt_of_lt_of_le hb H6.out.1.size))).mono ?_
  rintro e w7 hR7
  rw [← HG.out.1] at hR7
  have he := hR7.1
  subst he
  obtain ⟨R, hB, hRR⟩ := hR7.bools
  have H7 : Hid (Below w6.heap.size w6 w7 ∧ BoolsAt w7 w7.heap.size w6.heap.size n R ∧ ∀ i, i < n → ∀ x, R i x = true ↔ Tj.Reach (graph Z) i x) := ⟨hR7.2.1, hB, hRR⟩
  clear hR7 hB hRR
  go_wp2_with fail
  refine (model_any w6.heap.size n R w7 hn H7.out.2.1).mono ?_
  rintro e w8 ⟨vr, rfl, T, hRM⟩
  have hMM : ∀ u v, u < n → v < n → (mutB R u v = true ↔ Mut (graph Z) u v) := fun u v hu hv => by
    unfold mutB Mut
    rw [Bool.and_eq_true, H7.out.2.2 u hu v, H7.out.2.2 v hv u]
  have hWl := comps_len H6.out.2.2.1 hMM
  rw [← H6.out.2.2.2] at hWl
  obtain ⟨W, hW⟩ : ∃ W, W = want n (mutB R) n := ⟨_, rfl⟩
  have hrW := hRM.rows
  rw [← hW] at hrW hWl
  have hrW' := hrW
  obtain ⟨aW, cW, rfl, _⟩ := hrW
  rw [List.length_map, ← hWl] at hrW' ⊢
  have H8 : Hid (Below w3.heap.size w3 w8 ∧ RowsAt w8 (Lt w8.heap.size) (.slice aC m cC) (C.map castL) ∧ RowsAt w8 (Lt w8.heap.size) (.slice aW m cW) (W.map castL) ∧ CompsOK (graph Z) n C ∧ m = C.length ∧ m = W.length ∧ (∀ D : List (List Nat), D.Perm C → D.Pairwise (fun c d => c.headD 0 ≤ d.headD 0) → D = W)) := by
    have hs4 := H4.out.1.size
    have hs6 := H6.out.1.size
    have hs7 := H7.out.1.size
    have hb8 := hRM.below
    have hs8 := hb8.size
    refine ⟨((H4.out.1.trans (H6.out.1.mono hs4)).trans (H7.out.1.mono (by omega))).trans (hb8.mono (by omega)), ?_, hrW', H6.out.2.2.1, H6.out.2.2.2, hWl, fun D hD1 hD2 => ?_⟩
    · refine H6.out.2.1.keep (fun b hb => ?_) (fun b hb => Nat.lt_of_lt_of_le hb (by omega))
      rw [hb8.block b (Nat.lt_of_lt_of_le hb hs7), H7.out.1.block b hb]
    · rw [hW]
      exact sorted_eq_want H6.out.2.2.1 hMM hD1 hD2
  clear hMM hWl hW hrW' hRM H7 H6 H4 HROW HG HS HI
  have hmk := run_make_row' (P := Try.prog) 29 3 (.int .i64 0) 8 Try.underlying29 info3 rfl .i64 .i64 m (by omega) (by omega)
  go_wp2_with fail
  have HO0 : Hid (Ordering w8 m 0 (w8.alloc (.cells (madeCells #[.int .i64 0] m) 3))) := Ordering.start w8 m
  clear hmk
  go_loopg [48] m (fun gk v48 wr => ∃ i : Nat, i ≤ m ∧ gk = m - i ∧ v48 = .int .i64 i ∧ w8.heap.size < wr.heap.size ∧ Hid (Ordering w8 m i wr))
  case atStart => exact ⟨0, Nat.zero_le _, by omega, rfl, by simp, HO0.out⟩
  case round =>
    clear HO0
    obtain ⟨i, hi, hgk, rfl, hsz, HQ⟩ := hrel
    by_cases hil : i < m
    · obtain ⟨f, hf, _, _⟩ := HQ.out
      have ki := hf.cell hil
      have fi := hf.frozen i
      have HQ1 : Hid (Ordering w8 m (i + 1) (wr.setCell ⟨w8.heap.size, i, none⟩ (.int .i64 (i : Int)))) := HQ.out.step
      clear hf HQ
      go_wp2
      go_roundg (m - (i + 1))
      case measure => omega
      case rel => exact ⟨i + 1, by omega, rfl, by go_num, by simpa using hsz, HQ1.out⟩
    · have HO : Hid (Ord w8 m (List.range m) wr) := HQ.out.done (by omega)
      clear HQ
      go_wp2_with fail
      go_loopg [8] (m - 1) (fun gk v8 wr => ∃ i : Nat, 1 ≤ i ∧ i ≤ m + 1 ∧ gk = m - i ∧ v8 = .int .i64 i ∧ w8.heap.size < wr.heap.size ∧ Hid (∃ o, Ord w8 m o wr ∧ SortedTo C o i))
      case atStart => exact ⟨1, Nat.le_refl _, by omega, rfl, rfl, hsz, _, HO.out, fun a b h1 h2 => by omega⟩
      case round =>
        clear HO
        obtain ⟨i, hi1, hi2, hgk, rfl, hsz, HQ⟩ := hrel
        by_cases hil : i < m
        · go_wp2_with fail
          go_loopg [9] i (fun gk v9 wr => ∃ k : Nat, k ≤ i ∧ gk = k ∧ v9 = .int .i64 k ∧ w8.heap.size < wr.heap.size ∧ Hid (∃ o, Ord w8 m o wr ∧ Rises (key C) o i k))
          case atStart =>
            obtain ⟨o, h1, h2⟩ := HQ.out
            exact ⟨i, Nat.le_refl _, rfl, rfl, hsz, o, h1, fun a b h3 h4 h5 => h2 a b h3 (by omega)⟩
          case round =>
            clear HQ
            obtain ⟨k, hki, hgk2, rfl, hsz2, HQ⟩ := hrel
            obtain ⟨o, hO, hRi⟩ := HQ.out
            clear HQ
            cases k with
            | zero =>
              have HE : Hid (∃ o, Ord w8 m o wr ∧ SortedTo C o (i + 1)) := ⟨o, hO, fun a b h1 h2 => rises_done hRi (Nat.zero_le _) (.inl rfl) a b h1 (by omega)⟩
              clear hO hRi
              have hdz : decide ((0 : Int) < ((0 : Nat) : Int)) = false := by decide
              go_wp2_with fail
              go_quiet (fail)
              go_wp2_with fail
              go_roundg (m - (i + 1))
              case measure => omega
              case rel =>
                obtain ⟨o, h1, h2⟩ := HE.out
                exact ⟨i + 1, by omega, by omega, rfl, by go_num, hsz2, o, h1.drewN _, h2⟩
            | succ k =>
              have hkm : k + 1 < m := by omega
              obtain ⟨p, hp⟩ : ∃ p, p = o.getD k 0 := ⟨_, rfl⟩
              obtain ⟨q, hq⟩ : ∃ q, q = o.getD (k + 1) 0 := ⟨_, rfl⟩
              have hpm : p < m := by rw [hp]; exact hO.lt (by omega)
              have hqm : q < m := by rw [hq]; exact hO.lt hkm
              have cp := hO.row.cell (i := k) (by omega)
              have fp := hO.row.frozen k
              have cq := hO.row.cell (i := k + 1) hkm
              have fq := hO.row.frozen (k + 1)
              rw [← hp] at cp
              rw [← hq] at cq
              unfold enc at cp cq
              have hC2 : ∀ c ∈ C, 2 ≤ c.length := fun c hc => (H8.out.2.2.2.1.one c hc).2.1
              obtain ⟨b1, o1, bp, op, Lp, rp, ha1, hb1, hbp, g1, hLp, g2, _⟩ := got_at H8.out.2.1 hC2 (p := p) (by rw [← H8.out.2.2.2.2.1]; exact hpm)
              obtain ⟨b2, o2, bq, oq, Lq, rq, ha2, hb2, hbq, g3, hLq, g4, _⟩ := got_at H8.out.2.1 hC2 (p := q) (by rw [← H8.out.2.2.2.2.1]; exact hqm)
              have k1 := (hO.below.cell (p := ⟨b1, o1 + p, none⟩) hb1).trans g1
              have k2 := (hO.below.cell (p := ⟨bp, op, none⟩) hbp).trans g2
              have k3 := (hO.below.cell (p := ⟨b2, o2 + q, none⟩) hb2).trans g3
              have k4 := (hO.below.cell (p := ⟨bq, oq, none⟩) hbq).trans g4
              have x1 := fun w => at22 (cap := cC) (w := w) ha1 hpm
              have x2 := fun w => at22 (cap := cC) (w := w) ha2 hqm
              obtain ⟨kp, hkp⟩ : ∃ kp, kp = key C p := ⟨_, rfl⟩
              obtain ⟨kq, hkq⟩ : ∃ kq, kq = key C q := ⟨_, rfl⟩
              rw [← hkp] at k2
              rw [← hkq] at k4
              have HP : Hid (Ord w8 m o wr ∧ Rises (key C) o i (k + 1) ∧ p = o.getD k 0 ∧ q = o.getD (k + 1) 0 ∧ kp = key C p ∧ kq = key C q) := ⟨hO, hRi, hp, hq, hkp, hkq⟩
              clear hO hRi hp hq hkp hkq g1 g2 g3 g4 hb1 hb2 hbp hbq ha1 ha2 hC2
              have hkpos : (0 : Int) < ((k + 1 : Nat) : Int) := by omega
              by_cases hgt : kq < kp
              · have hgt' : (kq : Int) < (kp : Int) := by omega
                go_wp2_with fail
                go_quiet (fail)
                go_wp2_with fail
                go_roundg k
                case measure => omega
                case rel =>
                  obtain ⟨h1, h2, h3, h4, h5, h6⟩ := HP.out
                  have h7 := (h1.drewN nq).swap (k := k + 1) (x := p) (y := q) (by omega) hkm (by rw [Nat.add_sub_cancel]; exact h3) h4
                  rw [Nat.add_sub_cancel] at h7
                  refine ⟨k, by omega, rfl, by go_num, by simpa using hsz2, swapAt o (k + 1), h7, ?_⟩
                  have h8 := rises_swap h2 (by omega) hki (by rw [h1.len]; omega) (by rw [Nat.add_sub_cancel, ← h3, ← h4, ← h5, ← h6]; exact hgt)
                  rwa [Nat.add_sub_cancel] at h8
              · have hgt' : decide ((kq : Int) < (kp : Int)) = false := by rw [decide_eq_false_iff_not]; omega
                go_wp2_with fail
                go_quiet (fail)
                go_wp2_with fail
                go_roundg (m - (i + 1))
                case measure => omega
                case rel =>
                  obtain ⟨h1, h2, h3, h4, h5, h6⟩ := HP.out
                  refine ⟨i + 1, by omega, by omega, rfl, by go_num, hsz2, o, h1.drewN _, fun a b h7 h8 => rises_done h2 hki (.inr ?_) a b h7 (by omega)⟩
                  rw [Nat.add_sub_cancel, ← h3, ← h4, ← h5, ← h6]
                  omega
        · obtain ⟨o, hO, hS⟩ := HQ.out
          clear HQ
          have hD : o.map (fun j => C.getD j []) = W := by
            have h1 := ordered (C := C) (o := o) (by rw [← H8.out.2.2.2.2.1]; exact hO.perm) (fun a b h1 h2 => hS a b h1 (by rw [← H8.out.2.2.2.2.1] at h2; omega))
            exact H8.out.2.2.2.2.2.2 _ h1.1 h1.2
          have HD : Hid (o.map (fun j => C.getD j []) = W) := hD
          have HO : Hid (Ord w8 m o wr) := hO
          clear hD hO hS
          go_wp2_with fail
          go_loopg [108] m (fun gk v108 wr => ∃ i : Nat, i ≤ m ∧ gk = m - i ∧ v108 = .int .i64 i ∧ w8.heap.size < wr.heap.size ∧ Hid (Ord w8 m o wr))
          case atStart => exact ⟨0, Nat.zero_le _, rfl, rfl, hsz, HO.out⟩
          case round =>
            clear HO
            obtain ⟨j, hj, hgk3, rfl, hsz3, HO⟩ := hrel
            by_cases hjl : j < m
            · obtain ⟨p, hp⟩ : ∃ p, p = o.getD j 0 := ⟨_, rfl⟩
              have hpm : p < m := by rw [hp]; exact HO.out.lt hjl
              have cp := HO.out.row.cell hjl
              rw [← hp] at cp
              unfold enc at cp
              have hC2 : ∀ c ∈ C, 2 ≤ c.length := fun c hc => (H8.out.2.2.2.1.one c hc).2.1
              obtain ⟨b1, o1, bp, op, Lp, rp, ha1, hb1, hbp, g1, hLp, g2, hrow1⟩ := got_at H8.out.2.1 hC2 (p := p) (by rw [← H8.out.2.2.2.2.1]; exact hpm)
              have eW : C.getD p [] = W.getD j [] := by
                rw [← HD.out, hp]
                have hl : j < o.length := by rw [HO.out.len]; exact hjl
                simp only [List.getD_eq_getElem?_getD, List.getElem?_map, List.getElem?_eq_getElem hl, Option.map_some, Option.getD_some]
              have hrW := H8.out.2.2.1
              obtain ⟨aW', cW', ew, hrowsW⟩ := hrW
              injection ew with e1 e2 e3
              subst e1
              have hWl := H8.out.2.2.2.2.2.1
              rw [List.length_map, ← hWl] at hrowsW
              obtain ⟨b2, o2, ha2, hb2, hcc2⟩ := hrowsW (by omega)
              obtain ⟨u2, hu2, hrow2⟩ := hcc2 j hjl
              rw [map_castL_at, ← eW] at hrow2
              have hrow2' := hrow2
              obtain ⟨au2, cu2, eu2, _⟩ := hrow2
              obtain ⟨L2, hL2⟩ : ∃ L2, L2 = (castL (C.getD p [])).length := ⟨_, rfl⟩
              rw [← hL2] at eu2
              subst eu2
              have hlenp : (castL (C.getD p [])).length ≤ 1048576 := by
                rw [castL_len]
                have := comp_small H8.out.2.2.2.1 (getD_mem (d := []) (show p < C.length by rw [← H8.out.2.2.2.2.1]; exact hpm))
                omega
              have k1 := (HO.out.below.cell (p := ⟨b1, o1 + p, none⟩) hb1).trans g1
              have k2 := (HO.out.below.cell (p := ⟨b2, o2 + j, none⟩) hb2).trans hu2
              have x1 := fun w => at22 (cap := cC) (w := w) ha1 hpm
              have x2 := fun w => at22 (cap := cW) (w := w) ha2 hjl
              have HSM : Hid (∀ k, Calls Try.prog 16 #[.slice (some ⟨bp, op, none⟩) Lp rp, .slice au2 L2 cu2] (wr.drewN k) fun e w' => e = .returned (.bool true) ∧ ∃ j, w' = (wr.drewN k).drewN j) := fun k =>
                same_any _ _ (castL (C.getD p [])) (Lt w8.heap.size) (Lt w8.heap.size) (wr.drewN k) hlenp (hrow1.keep (fun b hb => HO.out.below.block b hb) (fun _ h => h)) (hrow2'.keep (fun b hb => HO.out.below.block b hb) (fun _ h => h))
              clear ha1 hb1 hbp g1 hLp g2 hrow1 eW hrowsW ha2 hb2 hcc2 hu2 hrow2' hL2 hlenp hC2 hp hWl e2 e3
              go_wp2_with fail
              go_quiet ((go_at_call 16; exact Calls.quiet_of (HSM.out _)))
              go_wp2_with fail
              go_roundg (m - (j + 1))
              case measure => omega
              case rel => exact ⟨j + 1, by omega, rfl, by go_num, hsz3, HO.out.drewN _⟩
            · go_wp2
              go_ret
              have h1 := H8.out.1
              exact ⟨rfl, h1.trans (HO.out.below.mono h1.size)⟩
end Go.Proofs.Qxb6603228a
