/-
  The walks: SkipReason.String at every byte ('lbl'), the law's own walk, and the plain law: 'lbl' tells any two bytes apart.
-/
import Derived.Test.Qxb6603072aDoorShelf
import Derived.Lib.AppendIntMem
import Derived.Lib.ItoaLen
import Derived.Lib.Hide
import Derived.WalkKit
import Derived.Outline
import Derived.Below
import Derived.BigCall
namespace Go.Proofs.Qxb6603072aDoor
open Go.Shelf Go.RowKit Go.Sort

/-- What SkipReason.String prints for the byte n. -/
def lbl (n : Int) : ByteArray :=
  if n = 0 then ⟨#[110, 111, 116, 32, 115, 107, 105, 112, 112, 101, 100]⟩
  else if n = 1 then ⟨#[116, 121, 112, 101, 32, 110, 111, 116, 32, 119, 97, 108, 107, 101, 100]⟩
  else if n = 2 then ⟨#[73, 78, 72, 69, 82, 73, 84, 95, 79, 78, 76, 89]⟩
  else if n = 3 then ⟨#[83, 73, 68, 32, 110, 111, 116, 32, 105, 110, 32, 116, 104, 101, 32, 116, 111, 107, 101, 110]⟩
  else if n = 4 then ⟨#[99, 111, 110, 100, 105, 116, 105, 111, 110, 32, 110, 111, 116, 32, 109, 101, 116]⟩
  else ⟨#[83, 107, 105, 112, 82, 101, 97, 115, 111, 110, 40]⟩ ++ ⟨(Lib.itoa n).toArray⟩ ++ ⟨#[41]⟩

/-- The number that a row of digits reads as. -/
def val (l : List UInt8) : Nat := l.foldl (fun a c => a * 10 + (c.toNat - 48)) 0

theorem val_snoc (l : List UInt8) (c : UInt8) : val (l ++ [c]) = val l * 10 + (c.toNat - 48) := by simp [val]

theorem digit_back (k : Nat) (h : k < 10) : (UInt8.ofNat (48 + k)).toNat - 48 = k := by
  have e : (UInt8.ofNat (48 + k)).toNat = 48 + k := by simp; omega
  omega

theorem val_dec : ∀ (b u : Nat), u ≤ b → val (Lib.decDigits u) = u := by
  intro b
  induction b with
  | zero =>
    intro u hu
    obtain rfl : u = 0 := by omega
    rw [Lib.decDigits, dif_pos (by omega)]
    decide
  | succ b ih =>
    intro u hu
    rw [Lib.decDigits]
    by_cases h : u < 10
    · rw [dif_pos h]
      have := digit_back u h
      simp only [val, List.foldl_cons, List.foldl_nil]
      omega
    · rw [dif_neg h, val_snoc, ih (u / 10) (by omega), digit_back (u % 10) (by omega)]
      omega

theorem dec_inj {u v : Nat} (h : Lib.decDigits u = Lib.decDigits v) : u = v := by
  have := congrArg val h
  rwa [val_dec u u (Nat.le_refl _), val_dec v v (Nat.le_refl _)] at this

theorem itoa_inj {a b : Int} (ha : 0 ≤ a) (hb : 0 ≤ b) (h : Lib.itoa a = Lib.itoa b) : a = b := by
  unfold Lib.itoa at h
  rw [if_neg (by omega), if_neg (by omega)] at h
  have := dec_inj h
  omega

theorem lbl_hi {n : Int} (h : 4 < n) : (lbl n).data.toList = [83, 107, 105, 112, 82, 101, 97, 115, 111, 110, 40] ++ (Lib.itoa n ++ [41]) := by
  unfold lbl
  rw [if_neg (by omega), if_neg (by omega), if_neg (by omega), if_neg (by omega), if_neg (by omega)]
  simp [ByteArray.data_append]

theorem lbl_inj {a b : Int} (a0 : 0 ≤ a) (b0 : 0 ≤ b) (h : lbl a = lbl b) : a = b := by
  have h' : (lbl a).data.toList = (lbl b).data.toList := by rw [h]
  clear h
  have ca : a = 0 ∨ a = 1 ∨ a = 2 ∨ a = 3 ∨ a = 4 ∨ 4 < a := by omega
  have cb : b = 0 ∨ b = 1 ∨ b = 2 ∨ b = 3 ∨ b = 4 ∨ 4 < b := by omega
  by_cases ha : 4 < a
  · by_cases hb : 4 < b
    · rw [lbl_hi ha, lbl_hi hb] at h'
      exact itoa_inj a0 b0 (List.append_cancel_right (List.append_cancel_left h'))
    · rw [lbl_hi ha] at h'
      rcases cb with rfl | rfl | rfl | rfl | rfl | hb'
      · simp [lbl] at h'
      · simp [lbl] at h'
      · simp [lbl] at h'
      · simp [lbl] at h'
      · simp [lbl] at h'
      · exact absurd hb' hb
  · by_cases hb : 4 < b
    · rw [lbl_hi hb] at h'
      rcases ca with rfl | rfl | rfl | rfl | rfl | ha'
      · simp [lbl] at h'
      · simp [lbl] at h'
      · simp [lbl] at h'
      · simp [lbl] at h'
      · simp [lbl] at h'
      · exact absurd ha' ha
    · rcases ca with rfl | rfl | rfl | rfl | rfl | ha' <;> rcases cb with rfl | rfl | rfl | rfl | rfl | hb' <;> first | rfl | omega | (simp [lbl] at h')

theorem low_world (w : World) : ∃ k os, w = grow (w.drewN k) os := ⟨0, #[], by simp [grow, World.drewN]⟩

set_option maxHeartbeats 400000 in
theorem string_hi (n : Int) (h0 : 4 < n) (h1 : n ≤ 255) (w : World) (htab : Lib.TabIs Tryd.prog w powName .u64 Lib.pow10Tab) :
    Calls Tryd.prog 5 #[.int .u8 n] w fun e w' => e = .returned (.string (lbl n)) ∧ ∃ k os, w' = grow (w.drewN k) os := by
  have HT := Lib.hid htab
  clear htab
  have e : lbl n = ⟨#[83, 107, 105, 112, 82, 101, 97, 115, 111, 110, 40]⟩ ++ ⟨(Lib.itoa n).toArray⟩ ++ ⟨#[41]⟩ := by
    unfold lbl
    rw [if_neg (by omega), if_neg (by omega), if_neg (by omega), if_neg (by omega), if_neg (by omega)]
  rw [e]
  clear e
  have ll := Lib.itoa_length_le n (by omega) (by omega)
  go_enter Tryd.func5, Tryd.ntmps5
  go_wp2_with fail
  refine (itoa_any n (by omega) (by omega) _ HT.out).mono ?_
  rintro e w1 ⟨rfl, k, os, rfl⟩
  go_wp2
  go_ret
  exact ⟨rfl, k, os, rfl⟩

set_option maxHeartbeats 400000 in
theorem string_lo (n : Int) (h0 : 0 ≤ n) (h1 : n ≤ 4) (w : World) :
    Calls Tryd.prog 5 #[.int .u8 n] w fun e w' => e = .returned (.string (lbl n)) ∧ ∃ k os, w' = grow (w.drewN k) os := by
  have c : n = 0 ∨ n = 1 ∨ n = 2 ∨ n = 3 ∨ n = 4 := by omega
  rcases c with rfl | rfl | rfl | rfl | rfl
  all_goals
    go_enter Tryd.func5, Tryd.ntmps5
    go_wp2
    go_ret
    exact ⟨rfl, low_world w⟩

theorem string_any (n : Int) (h0 : 0 ≤ n) (h1 : n ≤ 255) (w : World) (htab : Lib.TabIs Tryd.prog w powName .u64 Lib.pow10Tab) :
    Calls Tryd.prog 5 #[.int .u8 n] w fun e w' => e = .returned (.string (lbl n)) ∧ Below w.heap.size w w' := by
  have fin : (Calls Tryd.prog 5 #[.int .u8 n] w fun e w' => e = .returned (.string (lbl n)) ∧ ∃ k os, w' = grow (w.drewN k) os) := by
    by_cases h : 4 < n
    · exact string_hi n h h1 w htab
    · exact string_lo n h0 (by omega) w
  refine fin.mono ?_
  rintro e w' ⟨rfl, k, os, rfl⟩
  exact ⟨rfl, Lib.below_grow _ _ (Nat.le_refl _) _ _⟩

set_option maxHeartbeats 400000 in
theorem walk (a b : Int) (a0 : 0 ≤ a) (a1 : a ≤ 255) (b0 : 0 ≤ b) (b1 : b ≤ 255) (w : World) (htab : Lib.TabIs Tryd.prog w powName .u64 Lib.pow10Tab) :
    Calls Tryd.prog 3 #[.int .u8 a, .int .u8 b] w fun e w' => e = .returned (.bool true) ∧ Below w.heap.size w w' := by
  have HT := Lib.hid (Lib.tabBelow_of_tabIs htab)
  clear htab
  by_cases h : a = b
  · subst h
    go_enter Tryd.func3, Tryd.ntmps3
    go_wp2_with fail
    refine (string_any a a0 a1 _ (by exact HT.out.here)).mono ?_
    rintro e w1 ⟨rfl, n1⟩
    go_wp2_with fail
    refine (string_any a a0 a1 _ (by exact (HT.out.on n1).here)).mono ?_
    rintro e w2 ⟨rfl, n2⟩
    go_wp2
    go_ret
    exact ⟨rfl, n1.trans (n2.mono n1.size)⟩
  · have hne : (a == b) = false := by simpa using h
    have hl : ((lbl a).toList == (lbl b).toList) = false := by
      rw [Lib.toList_data, Lib.toList_data, beq_eq_false_iff_ne]
      exact fun e => h (lbl_inj a0 b0 (WideShapes.bytes_inj e))
    clear h
    go_enter Tryd.func3, Tryd.ntmps3
    go_wp2_with fail
    refine (string_any a a0 a1 _ (by exact HT.out.here)).mono ?_
    rintro e w1 ⟨rfl, n1⟩
    go_wp2_with fail
    refine (string_any b b0 b1 _ (by exact (HT.out.on n1).here)).mono ?_
    rintro e w2 ⟨rfl, n2⟩
    go_wp2
    go_ret
    exact ⟨rfl, n1.trans (n2.mono n1.size)⟩
end Go.Proofs.Qxb6603072aDoor
