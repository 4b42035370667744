/-
  SHARED WALKS of seat b6604602aM: 'filled', 'ZZfilled', 'zzCloneB1'.
-/
import Derived.Test.Qxb6604602aModsRows
import Derived.WalkKit
import Derived.ProofKit
import Derived.OpenShut
import Derived.WalkLawsBesides
import Derived.WalkSpells
import Derived.Deep.OwnRows
namespace Go.Proofs.Qxb6604602aMods
open Go.ChangeShapes Go.WideShapes Go.ChangeAt Go.RowKit

/-- Every one of the first n numbers is c. -/
def allC (f : Nat → Int) (c : Int) (n : Nat) : Bool := decide (∀ i, i < n → f i = c)

theorem allC_iff (f : Nat → Int) (c : Int) (n : Nat) : allC f c n = true ↔ ∀ i, i < n → f i = c := by
  unfold allC; exact decide_eq_true_iff

theorem allC_true {f : Nat → Int} {c : Int} {n : Nat} (h : ∀ i, i < n → f i = c) : allC f c n = true := (allC_iff f c n).2 h
theorem allC_false {f : Nat → Int} {c : Int} {n k : Nat} (hk : k < n) (h : f k ≠ c) : allC f c n = false := by
  rw [Bool.eq_false_iff]; intro e; exact h ((allC_iff f c n).1 e k hk)

theorem hide {p : Prop} (h : p) : Hid p := h
theorem unhide {p : Prop} (h : Hid p) : p := h

theorem ret_bool {a b : Bool} (h : a = b) : Ending.returned (.bool a) = .returned (.bool b) := by rw [h]

theorem Trym.info5 : (Trym.prog.info? 5).map (fun i => (i.zero, i.size, i.bytes)) = some (some (.int .u8 0), 1, 1) := by kernel_rfl

set_option maxHeartbeats 400000 in
/-- 'filled'. -/
theorem filled_any (a : Option Addr) (b o n cap : Nat) (f : Nat → Int) (c : Int) (w : World) (ha : 0 < n → a = some ⟨b, o, none⟩)
    (hc : ∀ i, i < n → w.cell? ⟨b, o + i, none⟩ = some (.int .u8 (f i))) (hn : n ≤ 1048576) :
    Calls Trym.prog 9 #[.slice a n cap, .int .u8 c] w fun e w' => e = .returned (.bool (allC f c n)) ∧ w' = w := by
  go_enter Trym.func9, Trym.ntmps9
  go_wp2
  go_loop [9] (fun i => ∃ k : Nat, k ≤ n ∧ i = .int .i64 k ∧ ∀ j, j < k → f j = c) (fun i => n - (intOf i).toNat)
  case atStart => exact ⟨0, Nat.zero_le _, rfl, fun j hj => absurd hj (Nat.not_lt_zero _)⟩
  case round =>
    obtain ⟨k, hk, rfl, hall⟩ := hrel
    by_cases hlt : k < n
    · obtain rfl := ha (by omega)
      have hcell := hc k hlt
      have hltz : (k : Int) < (n : Int) := by omega
      have HA : Hid (∀ j, j < k → f j = c) := hall
      clear hall hc ha
      by_cases he : f k = c
      · have hne : (f k != c) = false := by simp [he]
        have HE : Hid (f k = c) := he
        clear he
        go_wp2
        go_round
        case rel => exact ⟨k + 1, by omega, by go_num, fun j hj => by
          by_cases e : j = k
          · subst e; exact HE.out
          · exact HA.out j (by omega)⟩
        case measure => simp [intOf]; omega
      · have hne : (f k != c) = true := by simp [he]
        have HE : Hid (f k ≠ c) := he
        clear he
        go_wp2
        go_ret
        exact ⟨ret_bool (allC_false hlt HE.out).symm, rfl⟩
    · have HA : Hid (∀ j, j < n → f j = c) := fun j hj => hall j (by omega)
      clear hall hc ha
      go_wp2
      go_ret
      exact ⟨ret_bool (allC_true HA.out).symm, rfl⟩

set_option maxHeartbeats 400000 in
/-- 'ZZfilled'. -/
theorem zzfilled_any (a : Option Addr) (b o n cap : Nat) (f : Nat → Int) (c : Int) (w : World) (ha : 0 < n → a = some ⟨b, o, none⟩)
    (hc : ∀ i, i < n → w.cell? ⟨b, o + i, none⟩ = some (.int .u8 (f i))) (hn : n ≤ 1048576) :
    Calls Trym.prog 7 #[.slice a n cap, .int .u8 c] w fun e w' => e = .returned (.bool (allC f c n)) ∧ w' = w := by
  have H := filled_any a b o n cap f c w ha hc hn
  have HH := hide H
  clear H ha hc
  go_enter Trym.func7, Trym.ntmps7
  go_wp2_with fail
  refine (unhide HH).mono ?_
  rintro e w' ⟨rfl, rfl⟩
  go_wp2
  go_ret
  exact ⟨rfl, rfl⟩

set_option maxHeartbeats 400000 in
/-- 'zzCloneB1' of nil. -/
theorem clone_nil (w : World) :
    Calls Trym.prog 6 #[.slice none 0 0] w fun e w' => e = .returned (.slice none 0 0) ∧ w' = w := by
  have q22 : ∀ (w : World) (a : Option Addr) (n c n' c' : Nat), (binOp .eql 22 (.slice a n c) (.slice none n' c')).run Trym.prog w = .ok (.bool a.isNone) w := fun w a n c n' c' => Lib.run_eql_slice_nil w _ _ a n c n' c' Trym.underlying22
  go_enter Trym.func6, Trym.ntmps6
  go_wp2
  go_ret
  exact ⟨rfl, rfl⟩

set_option maxHeartbeats 400000 in
/-- 'zzCloneB1' of a slice that is not nil. -/
theorem clone_some (x : Addr) (b o n cap : Nat) (f : Nat → Int) (w : World) (ha : 0 < n → x = ⟨b, o, none⟩)
    (hc : ∀ i, i < n → w.cell? ⟨b, o + i, none⟩ = some (.int .u8 (f i))) (hn : n ≤ 1048576) :
    Calls Trym.prog 6 #[.slice (some x) n cap] w fun e w' => e = .returned (.slice (some ⟨w.heap.size, 0, none⟩) n n) ∧
      w'.rowIs w.heap.size 5 n (fun i => .int .u8 (f i)) ∧ Below w.heap.size w w' := by
  have hmk := run_make_row' (P := Trym.prog) 22 5 (.int .u8 0) 1 Trym.underlying22 Trym.info5 rfl .i64 .i64 n (by omega) (by omega)
  have q22 : ∀ (w : World) (a : Option Addr) (n c n' c' : Nat), (binOp .eql 22 (.slice a n c) (.slice none n' c')).run Trym.prog w = .ok (.bool a.isNone) w := fun w a n c n' c' => Lib.run_eql_slice_nil w _ _ a n c n' c' Trym.underlying22
  go_enter Trym.func6, Trym.ntmps6
  go_wp2
  clear hmk q22
  go_loopw [4] (fun i wr => ∃ k : Nat, k ≤ n ∧ i = .int .i64 k ∧ wr.rowIs w.heap.size 5 n (fun j => if j < k then .int .u8 (f j) else .int .u8 0) ∧ Below w.heap.size w wr) (fun i _ => n - (intOf i).toNat)
  case atStart => exact ⟨0, Nat.zero_le _, rfl, (World.rowIs_made w (.int .u8 0) n 5).congr (fun i _ => by simp), (Below.refl _ _).alloc (Nat.le_refl _) _⟩
  case round =>
    obtain ⟨k, hk, rfl, hrow, hbel⟩ := hrel
    by_cases hlt : k < n
    · obtain rfl := ha (by omega)
      have hb : b < w.heap.size := World.block_lt_of_cell? _ _ (hc k hlt)
      have hcell : wr.cell? ⟨b, o + k, none⟩ = some (.int .u8 (f k)) := (hbel.cell (p := ⟨b, o + k, none⟩) hb).trans (hc k hlt)
      have hst : wr.cell? ⟨w.heap.size, k, none⟩ = some (.int .u8 0) := by simpa using hrow.cell hlt
      have hfr : wr.frozen? ⟨w.heap.size, k, none⟩ = false := hrow.frozen k
      have hltz : (k : Int) < (n : Int) := by omega
      clear hc ha
      go_wp2
      go_roundw
      case rel => exact ⟨k + 1, by omega, by go_num, (hrow.set k (.int .u8 (f k))).congr (fun i hi => by
          by_cases e : i = k
          · subst e; simp
          · have : (i < k + 1) = (i < k) := by simp; omega
            simp [e, this]), hbel.setCell (p := ⟨w.heap.size, k, none⟩) (Nat.le_refl _) _⟩
      case measure => simp [intOf]; omega
    · clear hc ha
      go_wp2
      go_ret
      exact ⟨rfl, hrow.congr (fun i hi => by rw [if_pos (by omega)]), hbel⟩

end Go.Proofs.Qxb6604602aMods
