/-
  components: the second loop's body, taken out of the translation; what holds at its head.
-/
import Derived.Test.Qxb6603228aCompS
import Derived.Test.Qxb6603228aGood
import Derived.Deep.QuietTactic
import Derived.BigQuiet
namespace Go.Proofs.Qxb6603228a
open Go.RowKit Tj

/-- The body of the first loop in a code. -/
def loopIn : Code → Option Code
  | .loop c => some c
  | .seq a b => match loopIn a with
    | some c => some c
    | none => loopIn b
  | .block _ c => loopIn c
  | .scope c => loopIn c
  | .cond _ a b => match loopIn a with
    | some c => some c
    | none => loopIn b
  | _ => none

/-- What holds at the head of the second loop: k bounds the rounds to come. -/
def Rel2 (A : Nat → List Nat) (n r N : Nat) (w : World) (k : Nat) (vf vc : Value) (wq : World) : Prop :=
  ∃ s vs vw fnd, k = mu A n s ∧ TGood A n (r + 1) s ∧ CM N w n s vs vw vf vc fnd wq

/-- The edges' rows, as components reads them. -/
def Outs (A : Nat → List Nat) (n N : Nat) (a : Option Addr) (w : World) : Prop :=
  (0 < n → ∃ b off, a = some ⟨b, off, none⟩ ∧ b < N ∧ ∀ u, u < n → ∃ au cu, w.cell? ⟨b, off + u, none⟩ = some (.slice au (A u).length cu) ∧
    (0 < (A u).length → ∃ b2 off2, au = some ⟨b2, off2, none⟩ ∧ b2 < N ∧ ∀ k, k < (A u).length → w.cell? ⟨b2, off2 + k * 4 + 1, none⟩ = some (.int .i64 ((A u).getD k 0 : Nat)))) ∧
  (∀ u, u < n → (A u).length ≤ 1048576) ∧ (∀ u, u < n → ∀ x ∈ A u, x < n)

theorem at46 {a : Option Addr} {b off n cap k : Nat} (ha : a = some ⟨b, off, none⟩) (hk : k < n) (w : World) :
    (Instr.indexAt 46 (.slice a n cap) (.int .i64 (k : Int))).run Try.prog w = .ok (.pointer (some ⟨b, off + k, none⟩)) w := by
  subst ha
  go_simp
theorem at47 {a : Option Addr} {b off n cap k : Nat} (ha : a = some ⟨b, off, none⟩) (hk : k < n) (w : World) :
    (Instr.indexAt 47 (.slice a n cap) (.int .i64 (k : Int))).run Try.prog w = .ok (.pointer (some ⟨b, off + k * 4, none⟩)) w := by
  subst ha
  go_simp
/-- The top frame's next edge is stored, behind draws. -/
theorem CM.nexted {N n gw cw v k m : Nat} {w wr : World} {s : St} {vs vf vc : Value} {rest : List (Nat × Nat)} {fnd : List Nat} (hC : CM N w n s vs (.slice (some ⟨gw, 0, none⟩) (rest.length + 1) cw) vf vc fnd wr) (hW : s.wlk = (v, k) :: rest) :
    FM N n s.idx s.low (fun i => decide (i ∈ s.stk)) vs (.slice (some ⟨gw, 0, none⟩) (rest.length + 1) cw) s.cnt ((wr.drewN m).setCell ⟨gw, rest.length * 2 + 1, none⟩ (.int .i64 ((k : Int) + 1))) ∧
    OM N vs (.slice (some ⟨gw, 0, none⟩) (rest.length + 1) cw) vf vc s.stk ((v, k + 1) :: rest) fnd s.cmp ((wr.drewN m).setCell ⟨gw, rest.length * 2 + 1, none⟩ (.int .i64 ((k : Int) + 1))) ∧
    Below N w ((wr.drewN m).setCell ⟨gw, rest.length * 2 + 1, none⟩ (.int .i64 ((k : Int) + 1))) := by
  have hom := hC.om
  rw [hW] at hom
  have hgw : N + 9 ≤ gw := (hom.wlk.lt gw rfl).1
  have hg := grownBy_drewN wr m
  have h1 := hC.fm.keep hg (fun r e => by cases e)
  have h2 := hom.keep hg (fun r e => by cases e)
  have h3 : Below N w (wr.drewN m) := ⟨hC.below.os, hC.below.tape, hC.below.output, hC.below.size, hC.below.block⟩
  rw [← enc_succ]
  exact ⟨h1.keep (grownBy_set _ _ _) (fun r e => by cases e; exact hgw), h2.next (k + 1), h3.setCell (by show N ≤ gw; omega) _⟩
/-- low[x] = the lesser of two, behind a draw. -/
theorem lowed {N n x c d : Nat} {w w1 : World} {idx low : Nat → Nat} {on : Nat → Bool} {vs vw vf vc : Value} {cnt : Nat} {stk : List Nat} {wlk : List (Nat × Nat)} {fnd : List Nat} {cmp : List (List Nat)}
    (h : FM N n idx low on vs vw cnt w1 ∧ OM N vs vw vf vc stk wlk fnd cmp w1 ∧ Below N w w1) :
    FM N n idx (upd low x (min c d)) on vs vw cnt (w1.setCell ⟨N + 2, x, none⟩ (.int .i64 (min (c : Int) (d : Int)))).drew ∧ OM N vs vw vf vc stk wlk fnd cmp (w1.setCell ⟨N + 2, x, none⟩ (.int .i64 (min (c : Int) (d : Int)))).drew ∧
      Below N w (w1.setCell ⟨N + 2, x, none⟩ (.int .i64 (min (c : Int) (d : Int)))).drew := by
  have e : Value.int .i64 (min (c : Int) (d : Int)) = enc (min c d) := by
    unfold enc
    congr 1
    omega
  rw [e]
  exact ⟨(h.1.setLow x (min c d)).keep (grownBy_drewN _ 1) (fun r e => by cases e), (h.2.1.set ⟨N + 2, x, none⟩ (by show N + 2 < N + 9; omega) _).keep (grownBy_drewN _ 1) (fun r e => by cases e), (h.2.2.setCell (p := ⟨N + 2, x, none⟩) (by show N ≤ N + 2; omega) _).drew⟩
/-- Does a code begin with the region of this number? -/
def heads (i : Nat) : Code → Bool
  | .region j _ _ => j == i
  | .seq a _ => heads i a
  | _ => false

/-- The code behind the statement that begins with a region. -/
def after (i : Nat) : Code → Option Code
  | .seq a b => if heads i a then some b else match after i a with
    | some c => some c
    | none => after i b
  | .block _ c => after i c
  | .loop c => after i c
  | .scope c => after i c
  | .cond _ a b => match after i a with
    | some c => some c
    | none => after i b
  | _ => none

/-- Another code in its place. -/
def putAfter (i : Nat) (t : Code) : Code → Code
  | .seq a b => if heads i a then .seq a t else .seq (putAfter i t a) (putAfter i t b)
  | .block l c => .block l (putAfter i t c)
  | .loop c => .loop (putAfter i t c)
  | .scope c => .scope (putAfter i t c)
  | .cond x a b => .cond x (putAfter i t a) (putAfter i t b)
  | c => c
/-- The top frame is left, behind draws. -/
theorem CM.left {N n gw cw v k m : Nat} {w wr : World} {s : St} {vs vf vc : Value} {rest : List (Nat × Nat)} {fnd : List Nat} (hC : CM N w n s vs (.slice (some ⟨gw, 0, none⟩) (rest.length + 1) cw) vf vc fnd wr) (hW : s.wlk = (v, k) :: rest) :
    FM N n s.idx s.low (fun i => decide (i ∈ s.stk)) vs (.slice (some ⟨gw, 0, none⟩) rest.length cw) s.cnt ((wr.drewN m).setCell ⟨N + 7, 0, none⟩ (.slice (some ⟨gw, 0, none⟩) rest.length cw)) ∧
    OM N vs (.slice (some ⟨gw, 0, none⟩) rest.length cw) vf vc s.stk rest fnd s.cmp ((wr.drewN m).setCell ⟨N + 7, 0, none⟩ (.slice (some ⟨gw, 0, none⟩) rest.length cw)) ∧
    Below N w ((wr.drewN m).setCell ⟨N + 7, 0, none⟩ (.slice (some ⟨gw, 0, none⟩) rest.length cw)) := by
  have hom := hC.om
  rw [hW] at hom
  have hg := grownBy_drewN wr m
  have h1 := hC.fm.keep hg (fun r e => by cases e)
  have h2 := hom.popWlk.keep hg (fun r e => by cases e)
  have h3 : Below N w (wr.drewN m) := ⟨hC.below.os, hC.below.tape, hC.below.output, hC.below.size, hC.below.block⟩
  exact ⟨h1.setWlk _, h2.set ⟨N + 7, 0, none⟩ (by show N + 7 < N + 9; omega) _, h3.setCell (by show N ≤ N + 7; omega) _⟩

/-- Draws alone. -/
theorem CM.drewN {N n : Nat} {w wr : World} {s : St} {vs vw vf vc : Value} {fnd : List Nat} (h : CM N w n s vs vw vf vc fnd wr) (m : Nat) : CM N w n s vs vw vf vc fnd (wr.drewN m) :=
  ⟨h.fm.keep (grownBy_drewN wr m) (fun r e => by cases e), h.om.keep (grownBy_drewN wr m) (fun r e => by cases e), ⟨h.below.os, h.below.tape, h.below.output, h.below.size, h.below.block⟩⟩
end Go.Proofs.Qxb6603228a
