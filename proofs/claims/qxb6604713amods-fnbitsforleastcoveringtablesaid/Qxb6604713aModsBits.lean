/-
  SHARED WALKS of seat b6604713aM over numbers: 'bitsFor', 'ZZbitsFor', 'zzBitLen', 'zzBitsModel'; and the plain laws on them.
-/
import Derived.Test.Qxb6604713aModsRows
import Derived.WalkKit
import Derived.ProofKit
import Derived.WalkLawsBesides
import Derived.WalkSpells
namespace Go.Proofs.Qxb6604713aMods
open Go.ChangeShapes Go.WideShapes Go.ChangeAt Go.RowKit

theorem hide {p : Prop} (h : p) : Hid p := h
theorem unhide {p : Prop} (h : Hid p) : p := h

/-! ### The plain laws -/

/-- 320 * 2 ^ k. -/
def cover (k : Nat) : Int := 320 * 2 ^ k

theorem cover_zero : cover 0 = 320 := rfl
theorem cover_succ (k : Nat) : cover (k + 1) = 2 * cover k := by unfold cover; rw [Int.pow_succ]; omega
theorem cover_pos (k : Nat) : 0 < cover k := by
  induction k with
  | zero => decide
  | succ k ih => rw [cover_succ]; omega
theorem cover_mono {j k : Nat} (h : j ≤ k) : cover j ≤ cover k := by
  induction k with
  | zero => rw [Nat.le_zero.1 h]; exact Int.le_refl _
  | succ k ih =>
    by_cases e : j = k + 1
    · rw [e]; exact Int.le_refl _
    · have := ih (by omega); have := cover_pos k; rw [cover_succ]; omega
theorem cover_40 : cover 40 = 351843720888320 := by decide
theorem cover_le {k : Nat} (h : k ≤ 40) : cover k ≤ 351843720888320 := by
  have := cover_mono h; rw [cover_40] at this; exact this
theorem wrap_cover {k : Nat} (h : k ≤ 40) : wrap64 (320 * 2 ^ k) = cover k := by
  have h1 := cover_le h
  have h2 := cover_pos k
  show wrap64 (cover k) = cover k
  unfold wrap64; omega

/-- k is the answer of bitsFor at n. -/
structure IsBits (n : Int) (k : Nat) : Prop where
  le : k ≤ 40
  below : ∀ j, j < k → cover j < n
  covers : k = 40 ∨ n ≤ cover k

theorem IsBits.unique {n : Int} {j k : Nat} (hj : IsBits n j) (hk : IsBits n k) : j = k := by
  have h1 := hj.le; have h2 := hk.le
  by_cases h : j < k
  · have := hk.below j h
    rcases hj.covers with e | e <;> omega
  · by_cases h' : k < j
    · have := hj.below k h'
      rcases hk.covers with e | e <;> omega
    · omega

theorem IsBits.double {n : Int} {k : Nat} (h : IsBits n k) (hn : 320 < n) (hk : k < 40) : IsBits (2 * n) (k + 1) := by
  refine ⟨by omega, fun j hj => ?_, ?_⟩
  · match j, hj with
    | 0, _ => rw [cover_zero]; omega
    | i + 1, hj => have := h.below i (by omega); rw [cover_succ]; omega
  · rcases h.covers with e | e
    · omega
    · right; rw [cover_succ]; omega

/-- L is x's length in bits. -/
structure IsLen (x L : Nat) : Prop where
  lt : x < 2 ^ L
  ge : L = 0 ∨ 2 ^ (L - 1) ≤ x

/-- The closed form: of q = n / 320 rounded up. -/
theorem IsBits.closed {n : Int} {q L : Nat} (hq1 : n ≤ 320 * (q : Int)) (hq2 : 320 * ((q : Int) - 1) < n) (hq : 1 ≤ q) (h : IsLen (q - 1) L) : IsBits n (min L 40) := by
  have hp : ∀ j : Nat, cover j = 320 * ((2 ^ j : Nat) : Int) := fun j => by unfold cover; simp
  refine ⟨by omega, fun j hj => ?_, ?_⟩
  · rcases h.ge with e | e
    · omega
    · have : 2 ^ j ≤ 2 ^ (L - 1) := Nat.pow_le_pow_right (by omega) (by omega)
      rw [hp]; omega
  · by_cases hL : 40 ≤ L
    · left; omega
    · right
      rw [show min L 40 = L by omega, hp]
      have := h.lt
      omega

theorem IsLen.fits {x L : Nat} (h : IsLen x L) (hx : x < 18446744073709551616) : L ≤ 64 := by
  rcases h.ge with e | e
  · omega
  · by_cases hL : L ≤ 64
    · exact hL
    · have h1 : 2 ^ 64 ≤ 2 ^ (L - 1) := Nat.pow_le_pow_right (by omega) (by omega)
      have h2 : (2 : Nat) ^ 64 = 18446744073709551616 := by decide
      omega

/-! ### The walks -/
set_option maxHeartbeats 400000 in
theorem bitsFor_any (n : Int) (w : World) :
    Calls Trym.prog 11 #[.int .i64 n] w fun e w' => (∃ k : Nat, e = .returned (.int .u64 k) ∧ IsBits n k) ∧ w' = w := by
  go_enter Trym.func11, Trym.ntmps11
  go_wp2
  go_loop [3] (fun i => ∃ k : Nat, k ≤ 40 ∧ i = .int .u64 k ∧ ∀ j, j < k → cover j < n) (fun i => 40 - (intOf i).toNat)
  case atStart => exact ⟨0, Nat.zero_le _, rfl, fun j hj => absurd hj (Nat.not_lt_zero _)⟩
  case round =>
    obtain ⟨k, hk, rfl, hb⟩ := hrel
    have HB := hide hb
    clear hb
    have hw := wrap_cover hk
    have hc := cover_le hk
    go_wp2
    · go_round
      case rel => exact ⟨k + 1, by omega, by go_num, fun j hj => by
        by_cases e : j = k
        · subst e; assumption
        · exact HB.out j (by omega)⟩
      case measure => simp [intOf]; omega
    · go_ret
      exact ⟨⟨k, rfl, hk, HB.out, .inl (by omega)⟩, rfl⟩
    · go_ret
      exact ⟨⟨k, rfl, hk, HB.out, .inr (by assumption)⟩, rfl⟩

set_option maxHeartbeats 400000 in
theorem zzbitsFor_any (n : Int) (w : World) :
    Calls Trym.prog 7 #[.int .i64 n] w fun e w' => (∃ k : Nat, e = .returned (.int .u64 k) ∧ IsBits n k) ∧ w' = w := by
  go_enter Trym.func7, Trym.ntmps7
  go_wp2_with fail
  refine (bitsFor_any n _).mono ?_
  rintro e w' ⟨⟨k, rfl, hk⟩, rfl⟩
  go_wp2
  go_ret
  exact ⟨⟨k, rfl, hk⟩, rfl⟩

theorem IsLen.step {x y m : Nat} (hy : y = x / 2 ^ m) (hpos : 0 < y) : 2 ^ m ≤ x := by
  by_cases h : x < 2 ^ m
  · rw [Nat.div_eq_of_lt h] at hy; omega
  · omega

theorem div_pow_succ (x m : Nat) : x / 2 ^ m / 2 = x / 2 ^ (m + 1) := by rw [Nat.div_div_eq_div_mul, Nat.pow_succ]

theorem lt_of_div_zero {x m : Nat} (h : x / 2 ^ m = 0) : x < 2 ^ m := by
  rcases (Nat.div_eq_zero_iff).1 h with e | e
  · have : 0 < 2 ^ m := Nat.pow_pos (by omega)
    omega
  · exact e

theorem len_bound {x m : Nat} (hx : x < 18446744073709551616) (h : m = 0 ∨ 2 ^ (m - 1) ≤ x) : m ≤ 64 := by
  rcases h with e | e
  · omega
  · by_cases hL : m ≤ 64
    · exact hL
    · have h1 : 2 ^ 64 ≤ 2 ^ (m - 1) := Nat.pow_le_pow_right (by omega) (by omega)
      have h2 : (2 : Nat) ^ 64 = 18446744073709551616 := by decide
      omega

set_option maxHeartbeats 400000 in
theorem bitLen_any (x : Nat) (w : World) (hx : x < 18446744073709551616) :
    Calls Trym.prog 12 #[.int .u64 x] w fun e w' => (∃ L : Nat, e = .returned (.int .u64 L) ∧ IsLen x L) ∧ w' = w := by
  have HX := hide hx
  clear hx
  go_enter Trym.func12, Trym.ntmps12
  go_wp2
  go_loop [0, 3] (fun v i => ∃ y m : Nat, v = .int .u64 y ∧ i = .int .u64 m ∧ y = x / 2 ^ m ∧ (m = 0 ∨ 2 ^ (m - 1) ≤ x)) (fun v _ => (intOf v).toNat)
  case atStart => exact ⟨x, 0, rfl, rfl, by simp, .inl rfl⟩
  case round =>
    obtain ⟨y, m, rfl, rfl, hy, hm⟩ := hrel
    have HY := hide hy
    have HM := hide hm
    have hm64 := len_bound HX.out hm
    have hyx : y ≤ x := by rw [hy]; exact Nat.div_le_self _ _
    clear hy hm
    by_cases hpos : 0 < y
    · have hpz : (0 : Int) < (y : Int) := by omega
      go_wp2
      go_round
      case rel => exact ⟨y / 2, m + 1, by go_num, by go_num, by rw [HY.out]; exact div_pow_succ x m, .inr (IsLen.step HY.out hpos)⟩
      case measure => simp [intOf]; omega
    · have hpz : ¬ (0 : Int) < (y : Int) := by omega
      go_wp2
      go_ret
      exact ⟨⟨m, rfl, lt_of_div_zero (by have := HY.out; omega), HM.out⟩, rfl⟩

set_option maxHeartbeats 800000 in
theorem model_any (n : Int) (w : World) (hn : n ≤ 9223372036854775807) :
    Calls Trym.prog 8 #[.int .i64 n] w fun e w' => (∃ k : Nat, e = .returned (.int .u64 k) ∧ IsBits n k) ∧ w' = w := by
  by_cases h1 : n ≤ 320
  · go_enter Trym.func8, Trym.ntmps8
    go_wp2
    go_ret
    exact ⟨⟨0, rfl, by omega, fun j hj => absurd hj (Nat.not_lt_zero _), .inr (by rw [cover_zero]; exact h1)⟩, rfl⟩
  · obtain ⟨m, rfl⟩ := Int.eq_ofNat_of_zero_le (show 0 ≤ n by omega)
    have hm : 320 < m := by omega
    have hm2 : m ≤ 9223372036854775807 := by omega
    by_cases h2 : m % 320 = 0
    · have h2b : ((m : Int) % 320 != 0) = false := by simp; omega
      have H2 := hide h2
      clear h2
      go_enter Trym.func8, Trym.ntmps8
      go_wp2_with fail
      rw [show (m : Int) / 320 - 1 = ((m / 320 - 1 : Nat) : Int) from by omega]
      refine (bitLen_any (m / 320 - 1) _ (by omega)).mono ?_
      rintro e w' ⟨⟨L, rfl, hL⟩, rfl⟩
      have hb := IsBits.closed (n := (m : Int)) (q := m / 320) (by have := H2.out; omega) (by omega) (by omega) hL
      have HBB := hide hb
      clear hb hL
      by_cases h40 : L ≤ 40
      · have h40z : ¬ (40 : Int) < (L : Int) := by omega
        go_wp2
        go_ret
        exact ⟨⟨L, rfl, by have := HBB.out; rwa [Nat.min_eq_left h40] at this⟩, rfl⟩
      · have h40z : (40 : Int) < (L : Int) := by omega
        go_wp2
        go_ret
        exact ⟨⟨40, rfl, by have := HBB.out; rwa [Nat.min_eq_right (by omega)] at this⟩, rfl⟩
    · have h2b : ((m : Int) % 320 != 0) = true := by simp; omega
      have H2 := hide h2
      clear h2
      go_enter Trym.func8, Trym.ntmps8
      go_wp2_with fail
      rw [show (m : Int) / 320 = ((m / 320 : Nat) : Int) from by omega]
      refine (bitLen_any (m / 320) _ (by omega)).mono ?_
      rintro e w' ⟨⟨L, rfl, hL⟩, rfl⟩
      have hb := IsBits.closed (n := (m : Int)) (q := m / 320 + 1) (by omega) (by have := H2.out; omega) (by omega) hL
      have HBB := hide hb
      clear hb hL
      by_cases h40 : L ≤ 40
      · have h40z : ¬ (40 : Int) < (L : Int) := by omega
        go_wp2
        go_ret
        exact ⟨⟨L, rfl, by have := HBB.out; rwa [Nat.min_eq_left h40] at this⟩, rfl⟩
      · have h40z : (40 : Int) < (L : Int) := by omega
        go_wp2
        go_ret
        exact ⟨⟨40, rfl, by have := HBB.out; rwa [Nat.min_eq_right (by omega)] at this⟩, rfl⟩

end Go.Proofs.Qxb6604713aMods
