/-
  components' closure visit, walked.
-/
import Derived.Test.Qxb6603228aCompM
import Derived.RegionTactic
import Derived.BigRegion
import Derived.Deep.Draws
namespace Go.Proofs.Qxb6603228a
open Go.RowKit Tj

theorem info75 : (Try.prog.info? 75).map (fun i => (i.zero, i.size, i.bytes)) = some (some (.agg #[.int .i64 0, .int .i64 0]), 2, 16) := by kernel_rfl

/-- A draw turns nothing. -/
theorem grownBy_drewN (w : World) (k : Nat) : w.grownBy (w.drewN k) none := ⟨rfl, rfl, rfl, Nat.le_refl _, fun _ _ _ => rfl⟩

theorem enc_succ (c : Nat) : enc (c + 1) = .int .i64 ((c : Int) + 1) := by simp [enc]

/-- The two elements' cells that are appended. -/
theorem news_two (w : World) (b : Nat) (hb : b = w.heap.size) (v v' : Value) (t : TypeId) : ∀ (j : Nat) (u : Value), [v, v'][j]? = some u → (w.alloc (.cells #[v, v'] t)).cell? ((⟨b, 0, none⟩ : Addr).add j) = some u := by
  subst hb
  intro j u hj
  match j, hj with
  | 0, hj => simp at hj; subst hj; simp [Addr.add]
  | 1, hj => simp at hj; subst hj; simp [Addr.add]

/-- What visit leaves. -/
def Visited (N n : Nat) (idx low : Nat → Nat) (on : Nat → Bool) (cnt : Nat) (vf vc : Value) (stk : List Nat) (wlk : List (Nat × Nat)) (fnd : List Nat) (cmp : List (List Nat)) (t : Nat) (wr : World) (e : Ending) (w' : World) : Prop :=
  e = .returned (.tuple #[]) ∧ ∃ g c g' c', FM N n (upd idx t (cnt + 1)) (upd low t (cnt + 1)) (upd on t true) (.slice (some ⟨g, 0, none⟩) (stk.length + 1) c) (.slice (some ⟨g', 0, none⟩) (wlk.length + 1) c') (cnt + 1) w' ∧
    OM N (.slice (some ⟨g, 0, none⟩) (stk.length + 1) c) (.slice (some ⟨g', 0, none⟩) (wlk.length + 1) c') vf vc (t :: stk) ((t, 0) :: wlk) fnd cmp w' ∧ Below N wr w'

set_option maxHeartbeats 1000000 in
set_option maxRecDepth 100000 in
theorem visit_any (N n : Nat) (idx low : Nat → Nat) (on : Nat → Bool) (cnt : Nat) (vs vw vf vc : Value) (stk : List Nat) (wlk : List (Nat × Nat)) (fnd : List Nat) (cmp : List (List Nat)) (t : Nat) (w : World)
    (ht : t < n) (hcnt : cnt ≤ 1048576) (hsl : stk.length ≤ 4096) (hwl : wlk.length ≤ 4096) (hF : FM N n idx low on vs vw cnt w) (hO : OM N vs vw vf vc stk wlk fnd cmp w) :
    Calls Try.prog 33 #[.int .i64 t, .pointer (some ⟨N + 8, 0, none⟩), .pointer (some ⟨N + 1, 0, none⟩), .pointer (some ⟨N + 3, 0, none⟩), .pointer (some ⟨N + 6, 0, none⟩), .pointer (some ⟨N + 5, 0, none⟩), .pointer (some ⟨N + 7, 0, none⟩)] w
      fun e w' => Visited N n idx low on cnt vf vc stk wlk fnd cmp t w e w' := by
  obtain ⟨i3, hi3, hz3, hs3, hb3⟩ := info_parts info3
  obtain ⟨i75, hi75, hz75, hs75, hb75⟩ := info_parts info75
  have c8 := hF.bcnt.cell
  have f8 := hF.bcnt.frozen
  have c1 := hF.bidx.cell
  have c3 := hF.blow.cell
  have cN := hF.idx.cell ht
  have fN := hF.idx.frozen t
  have cL := hF.low.cell ht
  have fL := hF.low.frozen t
  unfold enc at c8 cN cL
  have HF : Hid (FM N n idx low on vs vw cnt w ∧ OM N vs vw vf vc stk wlk fnd cmp w) := ⟨hF, hO⟩
  clear hF hO
  go_enter Try.func33, Try.ntmps33
  go_wp2
  go_region
  have H3 : Hid (FM N n (upd idx t (cnt + 1)) (upd low t (cnt + 1)) on vs vw (cnt + 1) (((w.setCell ⟨N + 8, 0, none⟩ (.int .i64 ((cnt : Int) + 1))).setCell ⟨N, t, none⟩ (.int .i64 ((cnt : Int) + 1))).setCell ⟨N + 2, t, none⟩ (.int .i64 ((cnt : Int) + 1))).drew ∧
      OM N vs vw vf vc stk wlk fnd cmp (((w.setCell ⟨N + 8, 0, none⟩ (.int .i64 ((cnt : Int) + 1))).setCell ⟨N, t, none⟩ (.int .i64 ((cnt : Int) + 1))).setCell ⟨N + 2, t, none⟩ (.int .i64 ((cnt : Int) + 1))).drew ∧
      Below N w (((w.setCell ⟨N + 8, 0, none⟩ (.int .i64 ((cnt : Int) + 1))).setCell ⟨N, t, none⟩ (.int .i64 ((cnt : Int) + 1))).setCell ⟨N + 2, t, none⟩ (.int .i64 ((cnt : Int) + 1))).drew) := by
    have h1 := ((HF.out.1.setCnt (cnt + 1)).setIdx t (cnt + 1)).setLow t (cnt + 1)
    rw [enc_succ] at h1
    refine ⟨h1.keep (grownBy_drewN _ 1) (fun r e => by cases e), OM.keep (((HF.out.2.set ⟨N + 8, 0, none⟩ (by show N + 8 < N + 9; omega) _).set ⟨N, t, none⟩ (by show N < N + 9; omega) _).set ⟨N + 2, t, none⟩ (by show N + 2 < N + 9; omega) _) (grownBy_drewN _ 1) (fun r e => by cases e), ?_⟩
    exact ((((Below.refl N w).setCell (p := ⟨N + 8, 0, none⟩) (by show N ≤ N + 8; omega) _).setCell (p := ⟨N, t, none⟩) (by show N ≤ N; omega) _).setCell (p := ⟨N + 2, t, none⟩) (by show N ≤ N + 2; omega) _).drew
  generalize (((w.setCell ⟨N + 8, 0, none⟩ (.int .i64 ((cnt : Int) + 1))).setCell ⟨N, t, none⟩ (.int .i64 ((cnt : Int) + 1))).setCell ⟨N + 2, t, none⟩ (.int .i64 ((cnt : Int) + 1))).drew = w3 at H3 ⊢
  clear c8 f8 c1 c3 cN fN cL fL HF
  have c6 := H3.out.1.bstk.cell
  have hsz3 := H3.out.2.1.size
  go_wp2_with (at_builtin; (refine wpList_append_out _ rfl (.tmp 18) (.tmp 20) 29 rfl (N + 9) 3 i3 (.int .i64 0) 1 8 Try.underlying29 hi3 hz3 hs3 hb3 rfl (by decide) _ stk.length (stk.reverse.map enc) rfl (H3.out.2.1.stk.alloc _) ⟨w3.heap.size, 0, none⟩ 1 1 [.int .i64 (t : Int)] rfl rfl ?d1 ?d2 (by omega) ?d3 ?d4 ?d5 ?d6))
  case d1 => exact news_one _ _ rfl _ _
  case d2 => intro u hu; simp at hu; subst hu; rfl
  case d3 => unfold maxLen; omega
  case d4 => omega
  case d5 => simp; omega
  intro g c w4 hown4 hgrow4 hblk4
  rw [← List.map_reverse] at hown4
  have H4 : Hid (FM N n (upd idx t (cnt + 1)) (upd low t (cnt + 1)) on vs vw (cnt + 1) w4 ∧ OM N (.slice (some ⟨g, 0, none⟩) (stk.length + 1) c) vw vf vc (t :: stk) wlk fnd cmp w4 ∧ Below N w w4) := by
    have hO := H3.out.2.1.alloc (.cells #[.int .i64 (t : Int)] 3)
    exact ⟨(H3.out.1.keep (World.grownBy_alloc _ _ none) (fun r e => by cases e)).keep hgrow4 (fun r e => (hO.stk.lt r e).1), hO.pushStk hown4 hgrow4 (by simpa using hblk4),
      (H3.out.2.2.alloc (by omega) _).grown hgrow4 (by simp; omega) (fun k e => by have := (hO.stk.lt k e).1; omega)⟩
  clear hown4 hgrow4 hblk4 c6 hsz3 H3
  have c6 := H4.out.1.bstk.cell
  have f6 := H4.out.1.bstk.frozen
  have c5 := H4.out.1.bon.cell
  have cO := H4.out.1.on.cell ht
  have fO := H4.out.1.on.frozen t
  have c7 := H4.out.1.bwlk.cell
  have f7 := H4.out.1.bwlk.frozen
  have hsz4 := H4.out.2.1.size
  have H5 : Hid (FM N n (upd idx t (cnt + 1)) (upd low t (cnt + 1)) (upd on t true) (.slice (some ⟨g, 0, none⟩) (stk.length + 1) c) vw (cnt + 1) ((w4.setCell ⟨N + 6, 0, none⟩ (.slice (some ⟨g, 0, none⟩) (stk.length + 1) c)).setCell ⟨N + 4, t, none⟩ (.bool true)) ∧
      OM N (.slice (some ⟨g, 0, none⟩) (stk.length + 1) c) vw vf vc (t :: stk) wlk fnd cmp ((w4.setCell ⟨N + 6, 0, none⟩ (.slice (some ⟨g, 0, none⟩) (stk.length + 1) c)).setCell ⟨N + 4, t, none⟩ (.bool true)) ∧
      Below N w ((w4.setCell ⟨N + 6, 0, none⟩ (.slice (some ⟨g, 0, none⟩) (stk.length + 1) c)).setCell ⟨N + 4, t, none⟩ (.bool true))) :=
    ⟨(H4.out.1.setStk _).setOn t true, (H4.out.2.1.set ⟨N + 6, 0, none⟩ (by show N + 6 < N + 9; omega) _).set ⟨N + 4, t, none⟩ (by show N + 4 < N + 9; omega) _, (H4.out.2.2.setCell (p := ⟨N + 6, 0, none⟩) (by show N ≤ N + 6; omega) _).setCell (p := ⟨N + 4, t, none⟩) (by show N ≤ N + 4; omega) _⟩
  clear H4
  go_wp2_with (at_builtin; (refine wpList_append_out _ rfl (.tmp 25) (.tmp 28) 73 rfl (N + 9) 75 i75 (.agg #[.int .i64 0, .int .i64 0]) 2 16 Try.underlying73 hi75 hz75 hs75 hb75 rfl (by decide) _ wlk.length (cells2 wlk) rfl (H5.out.2.1.wlk.alloc _) ⟨w4.heap.size, 0, none⟩ 1 1 [.int .i64 (t : Int), .int .i64 0] rfl rfl ?e1 ?e2 (by omega) ?e3 ?e4 ?e5 ?e6))
  case e1 => exact news_two _ _ (by simp) _ _ _
  case e2 => intro u hu; simp at hu; rcases hu with rfl | rfl <;> rfl
  case e3 => unfold maxLen; omega
  case e4 => omega
  case e5 => simp; omega
  intro g' c' w6 hown6 hgrow6 hblk6
  have H6 : Hid (FM N n (upd idx t (cnt + 1)) (upd low t (cnt + 1)) (upd on t true) (.slice (some ⟨g, 0, none⟩) (stk.length + 1) c) vw (cnt + 1) w6 ∧
      OM N (.slice (some ⟨g, 0, none⟩) (stk.length + 1) c) (.slice (some ⟨g', 0, none⟩) (wlk.length + 1) c') vf vc (t :: stk) ((t, 0) :: wlk) fnd cmp w6 ∧ Below N w w6) := by
    have hO := H5.out.2.1.alloc (.cells #[.int .i64 (t : Int), .int .i64 0] 75)
    have hs5 := H5.out.2.1.size
    exact ⟨(H5.out.1.keep (World.grownBy_alloc _ _ none) (fun r e => by cases e)).keep hgrow6 (fun r e => (hO.wlk.lt r e).1), hO.pushWlk hown6 hgrow6 (by simpa using hblk6),
      (H5.out.2.2.alloc (by omega) _).grown hgrow6 (by have := hO.size; omega) (fun k e => by have := (hO.wlk.lt k e).1; omega)⟩
  clear hown6 hgrow6 hblk6 c6 f6 c5 cO fO c7 f7 H5
  have c7 := H6.out.1.bwlk.cell
  have f7 := H6.out.1.bwlk.frozen
  go_wp2
  go_end0
  exact ⟨rfl, g, c, g', c', H6.out.1.setWlk _, H6.out.2.1.set ⟨N + 7, 0, none⟩ (by show N + 7 < N + 9; omega) _, H6.out.2.2.setCell (p := ⟨N + 7, 0, none⟩) (by show N ≤ N + 7; omega) _⟩
end Go.Proofs.Qxb6603228a
