/-
  SEAT b6604705aM: the walks of ehUvLen, ehReadUv, ehReadStr.
-/
import Derived.Test.Qxb6604705aModsPlain
import Derived.Lib.VarintBits
namespace Go.Proofs.Qxb6604705aMods
open Go.ChangeShapes Go.WideShapes Go.ChangeAt Go.RowKit

theorem ret_int {k : IntKind} {a b : Int} (h : a = b) : Ending.returned (.int k a) = .returned (.int k b) := by rw [h]

set_option maxHeartbeats 800000 in
theorem uvLen_any (x : Nat) (hx : x < 18446744073709551616) (w : World) :
    Calls Trym.prog 16 #[.int .u64 x] w fun e w' => e = .returned (.int .i64 (Lib.uvarint x).length) ∧ w' = w := by
  have hlen := Lib.uvarint_length64 hx
  go_enter Trym.func16, Trym.ntmps16
  go_wp2
  go_loop [0, 3] (fun v i => ∃ (y m : Nat), v = .int .u64 y ∧ i = .int .i64 m ∧ y ≤ x ∧ (Lib.uvarint x).length + 1 = m + (Lib.uvarint y).length) (fun v _ => (intOf v).toNat)
  case atStart => exact ⟨x, 1, rfl, rfl, Nat.le_refl _, by omega⟩
  case round =>
    obtain ⟨y, m, rfl, rfl, hy, hm⟩ := hrel
    have hyp := Lib.uvarint_pos y
    have hm10 : m ≤ 10 := by omega
    have HM := hide hm
    clear hm
    by_cases h128 : 128 ≤ y
    · have hz : (128 : Int) ≤ (y : Int) := by omega
      go_wp2
      go_round
      case rel => exact ⟨y / 128, m + 1, by go_num, by go_num, by omega, by
        have := unhide HM
        rw [Lib.uvarint_big h128, List.length_cons] at this
        omega⟩
      case measure => simp [intOf]; omega
    · have hz : ¬ (128 : Int) ≤ (y : Int) := by omega
      go_wp2
      go_ret
      exact ⟨ret_int (by
        have := unhide HM
        rw [Lib.uvarint_small (x := y) (by omega), List.length_singleton] at this
        omega), rfl⟩

/-- v is a slice of the bytes bs, at the head of its block. -/
def Bs (w : World) (v : Value) (bs : List UInt8) : Prop :=
  ∃ g cap, v = .slice (some ⟨g, 0, none⟩) bs.length cap ∧ bs.length ≤ cap ∧ ∀ i, i < bs.length → w.cell? ⟨g, i, none⟩ = some (.int .u8 ((bs.getD i 0).toNat : Int))

theorem Bs.below {w w' : World} {v : Value} {bs : List UInt8} (h : Bs w v bs) (hb : Below w.heap.size w w') : Bs w' v bs := by
  obtain ⟨g, cap, hv, hl, hc⟩ := h
  exact ⟨g, cap, hv, hl, fun i hi => cell_later hb (hc i hi)⟩

theorem Bs.of_row {w : World} {B n : Nat} {v : Value} {bs : List UInt8} (h : w.ownsRow B 5 1 v n (Lib.byteCells bs)) (hn : n = bs.length) (hpos : 0 < n) : Bs w v bs := by
  subst hn
  rcases h.2 with ⟨_, h0⟩ | ⟨g, cap, cur, rfl, _, hc, hcap, _⟩
  · omega
  · refine ⟨g, cap, rfl, hcap, fun i hi => ?_⟩
    rw [World.ownsRow.cellAt h i (by omega)]
    simp [Lib.byteCells, hi]

set_option maxRecDepth 100000 in
set_option maxHeartbeats 1600000 in
theorem readUv1 (g N cap p c0 : Nat) (w : World) (hN : N ≤ 140737488355328) (hp : p < N) (h0 : c0 < 128) (k0 : w.cell? ⟨g, p, none⟩ = some (.int .u8 (c0 : Int))) :
    Calls Trym.prog 13 #[.slice (some ⟨g, 0, none⟩) N cap, .int .i64 p] w fun e w' => e = .returned (.tuple #[.int .u64 (c0 : Int), .int .i64 ((p : Int) + 1), .bool true]) ∧ w' = w := by
  have t1 : ¬ (p : Int) < 0 := by omega
  have t2 : ¬ (N : Int) ≤ (p : Int) := by omega
  have t2' : (p : Int) < (N : Int) := by omega
  have t3 : (c0 : Int) < 128 := by omega
  have hor : bits .or .u64 0 (c0 : Int) = (c0 : Int) := by
    have := u64_orv0 (y := 0) (x := (c0 : Int)) (by omega) (by omega) (by omega) (by omega) (by omega)
    rw [this, Int.zero_add]
  go_enter Trym.func13, Trym.ntmps13
  go_wp2
  refine wp_loop_rounds 1 ?_
  rw [rounds_succ]
  go_wp2
  go_ret3
  exact ⟨rfl, rfl⟩

theorem and127 {c : Nat} (h : c < 128) : bits .and .u8 ((c : Int) + 128) 127 = (c : Int) := by
  have := bits_mask .u8 8 (by decide) wraps_u8 7 (by decide) ((c : Int) + 128) (by omega) (by omega)
  have e : bits .and .u8 ((c : Int) + 128) 127 = ((c : Int) + 128) % 128 := this
  rw [e]; omega

set_option maxRecDepth 100000 in
set_option maxHeartbeats 1600000 in
theorem readUv2 (g N cap p c0 c1 : Nat) (w : World) (hN : N ≤ 140737488355328) (hp : p + 1 < N) (h0 : c0 < 128) (h1 : c1 < 128) (k0 : w.cell? ⟨g, p, none⟩ = some (.int .u8 ((c0 : Int) + 128))) (k1 : w.cell? ⟨g, p + 1, none⟩ = some (.int .u8 (c1 : Int))) :
    Calls Trym.prog 13 #[.slice (some ⟨g, 0, none⟩) N cap, .int .i64 p] w fun e w' => e = .returned (.tuple #[.int .u64 ((c0 : Int) + c1 * 128), .int .i64 ((p : Int) + 1 + 1), .bool true]) ∧ w' = w := by
  have t1 : ¬ (p : Int) < 0 := by omega
  have t2 : ¬ (N : Int) ≤ (p : Int) := by omega
  have t2' : (p : Int) < (N : Int) := by omega
  have t4 : ¬ (N : Int) ≤ (p : Int) + 1 := by omega
  have t4' : (p : Int) + 1 < (N : Int) := by omega
  have t3 : ¬ (c0 : Int) + 128 < 128 := by omega
  have t5 : (c1 : Int) < 128 := by omega
  have hor : bits .or .u64 0 (c0 : Int) = (c0 : Int) := by
    have := u64_orv0 (y := 0) (x := (c0 : Int)) (by omega) (by omega) (by omega) (by omega) (by omega)
    rw [this, Int.zero_add]
  have hand := and127 h0
  have hor7 : bits .or .u64 (c0 : Int) ((c1 : Int) * 128) = (c0 : Int) + c1 * 128 := u64_orv7 (y := (c0 : Int)) (x := (c1 : Int) * 128) (by omega) (by omega) (by omega) (by omega) (by omega)
  go_enter Trym.func13, Trym.ntmps13
  go_wp2
  refine wp_loop_rounds 2 ?_
  rw [rounds_succ]
  go_wp2
  rw [rounds_succ]
  go_wp2
  go_ret3
  exact ⟨rfl, rfl⟩

set_option maxRecDepth 100000 in
set_option maxHeartbeats 1600000 in
theorem readUv3 (g N cap p c0 c1 c2 : Nat) (w : World) (hN : N ≤ 140737488355328) (hp : p + 1 + 1 < N) (h0 : c0 < 128) (h1 : c1 < 128) (h2 : c2 < 128) (k0 : w.cell? ⟨g, p, none⟩ = some (.int .u8 ((c0 : Int) + 128))) (k1 : w.cell? ⟨g, p + 1, none⟩ = some (.int .u8 ((c1 : Int) + 128))) (k2 : w.cell? ⟨g, p + 1 + 1, none⟩ = some (.int .u8 (c2 : Int))) :
    Calls Trym.prog 13 #[.slice (some ⟨g, 0, none⟩) N cap, .int .i64 p] w fun e w' => e = .returned (.tuple #[.int .u64 ((c0 : Int) + c1 * 128 + c2 * 16384), .int .i64 ((p : Int) + 1 + 1 + 1), .bool true]) ∧ w' = w := by
  have t1 : ¬ (p : Int) < 0 := by omega
  have t2 : ¬ (N : Int) ≤ (p : Int) := by omega
  have t2' : (p : Int) < (N : Int) := by omega
  have t4 : ¬ (N : Int) ≤ (p : Int) + 1 := by omega
  have t4' : (p : Int) + 1 < (N : Int) := by omega
  have t6 : ¬ (N : Int) ≤ (p : Int) + 1 + 1 := by omega
  have t6' : (p : Int) + 1 + 1 < (N : Int) := by omega
  have t3 : ¬ (c0 : Int) + 128 < 128 := by omega
  have t5 : ¬ (c1 : Int) + 128 < 128 := by omega
  have t7 : (c2 : Int) < 128 := by omega
  have hor : bits .or .u64 0 (c0 : Int) = (c0 : Int) := by
    have := u64_orv0 (y := 0) (x := (c0 : Int)) (by omega) (by omega) (by omega) (by omega) (by omega)
    rw [this, Int.zero_add]
  have hand := and127 h0
  have hand1 := and127 h1
  have hor7 : bits .or .u64 (c0 : Int) ((c1 : Int) * 128) = (c0 : Int) + c1 * 128 := u64_orv7 (y := (c0 : Int)) (x := (c1 : Int) * 128) (by omega) (by omega) (by omega) (by omega) (by omega)
  have hor14 : bits .or .u64 ((c0 : Int) + c1 * 128) ((c2 : Int) * 16384) = (c0 : Int) + c1 * 128 + c2 * 16384 := u64_orv14 (y := (c0 : Int) + c1 * 128) (x := (c2 : Int) * 16384) (by omega) (by omega) (by omega) (by omega) (by omega)
  go_enter Trym.func13, Trym.ntmps13
  go_wp2
  refine wp_loop_rounds 3 ?_
  rw [rounds_succ]
  go_wp2
  rw [rounds_succ]
  go_wp2
  rw [rounds_succ]
  go_wp2
  go_ret3
  exact ⟨rfl, rfl⟩

/-! ### The three as one -/
theorem getD_drop (bs : List UInt8) (p i : Nat) : bs.getD (p + i) 0 = (bs.drop p).getD i 0 := by
  simp [List.getElem?_drop]

theorem len_drop {bs l rest : List UInt8} {p : Nat} (h : bs.drop p = l ++ rest) (hl : 0 < l.length) : p + l.length ≤ bs.length := by
  have e := congrArg List.length h
  rw [List.length_drop, List.length_append] at e
  omega

theorem byte_at {bs l rest : List UInt8} {p : Nat} (h : bs.drop p = l ++ rest) (i : Nat) (hi : i < l.length) : bs.getD (p + i) 0 = l[i] := by
  rw [getD_drop, h]
  simp [List.getElem?_append_left hi, hi]

theorem toUInt8_toNat' {a : Nat} (h : a < 256) : (a.toUInt8).toNat = a := Lib.toUInt8_toNat h

theorem readUv_any (v : Value) (bs rest : List UInt8) (p x : Nat) (w : World) (hb : Bs w v bs) (hN : bs.length ≤ 140737488355328) (hx : x < 2097152) (hd : bs.drop p = Lib.uvarint x ++ rest) :
    Calls Trym.prog 13 #[v, .int .i64 p] w fun e w' => e = .returned (.tuple #[.int .u64 x, .int .i64 ((p + (Lib.uvarint x).length : Nat) : Int), .bool true]) ∧ w' = w := by
  obtain ⟨g, cap, rfl, _, hc⟩ := hb
  by_cases h1 : x < 128
  · rw [Lib.uvarint_small h1] at hd ⊢
    have hl := len_drop hd (by simp)
    simp only [List.length_singleton] at hl
    have b0 := byte_at hd 0 (by simp)
    have k0 := hc p (by omega)
    rw [Nat.add_zero] at b0
    rw [b0] at k0
    simp only [List.getElem_cons_zero, toUInt8_toNat' (show x < 256 by omega)] at k0
    exact readUv1 g bs.length cap p x w hN (by omega) h1 k0
  · by_cases h2 : x < 16384
    · rw [Lib.uvarint_big (by omega), Lib.uvarint_small (x := x / 128) (by omega)] at hd ⊢
      have hl := len_drop hd (by simp)
      simp only [List.length_cons, List.length_nil] at hl
      have b0 := byte_at hd 0 (by simp)
      have b1 := byte_at hd 1 (by simp)
      have k0 := hc p (by omega)
      have k1 := hc (p + 1) (by omega)
      rw [Nat.add_zero] at b0
      rw [b0] at k0
      rw [b1] at k1
      simp only [List.getElem_cons_zero, List.getElem_cons_succ, toUInt8_toNat' (show x % 128 + 128 < 256 by omega), toUInt8_toNat' (show x / 128 < 256 by omega)] at k0 k1
      refine (readUv2 g bs.length cap p (x % 128) (x / 128) w hN (by omega) (by omega) (by omega) (by rw [k0]; congr 2) k1).mono ?_
      rintro e w' ⟨rfl, rfl⟩
      refine ⟨?_, rfl⟩
      have e1 : ((x % 128 : Nat) : Int) + ((x / 128 : Nat) : Int) * 128 = (x : Int) := by omega
      have e2 : (p : Int) + 1 + 1 = ((p + [(x % 128 + 128).toUInt8, (x / 128).toUInt8].length : Nat) : Int) := by simp; omega
      rw [e1, e2]
    · rw [Lib.uvarint_big (by omega), Lib.uvarint_big (x := x / 128) (by omega), Lib.uvarint_small (x := x / 128 / 128) (by omega)] at hd ⊢
      have hl := len_drop hd (by simp)
      simp only [List.length_cons, List.length_nil] at hl
      have b0 := byte_at hd 0 (by simp)
      have b1 := byte_at hd 1 (by simp)
      have b2 := byte_at hd 2 (by simp)
      have k0 := hc p (by omega)
      have k1 := hc (p + 1) (by omega)
      have k2 := hc (p + 1 + 1) (by omega)
      rw [Nat.add_zero] at b0
      rw [b0] at k0
      rw [b1] at k1
      rw [show p + 1 + 1 = p + 2 from rfl, b2] at k2
      simp only [List.getElem_cons_zero, List.getElem_cons_succ, toUInt8_toNat' (show x % 128 + 128 < 256 by omega), toUInt8_toNat' (show x / 128 % 128 + 128 < 256 by omega), toUInt8_toNat' (show x / 128 / 128 < 256 by omega)] at k0 k1 k2
      refine (readUv3 g bs.length cap p (x % 128) (x / 128 % 128) (x / 128 / 128) w hN (by omega) (by omega) (by omega) (by omega) (by rw [k0]; congr 2) (by rw [k1]; congr 2) k2).mono ?_
      rintro e w' ⟨rfl, rfl⟩
      refine ⟨?_, rfl⟩
      have e1 : ((x % 128 : Nat) : Int) + ((x / 128 % 128 : Nat) : Int) * 128 + ((x / 128 / 128 : Nat) : Int) * 16384 = (x : Int) := by omega
      have e2 : (p : Int) + 1 + 1 + 1 = ((p + [(x % 128 + 128).toUInt8, (x / 128 % 128 + 128).toUInt8, (x / 128 / 128).toUInt8].length : Nat) : Int) := by simp; omega
      rw [e1, e2]

end Go.Proofs.Qxb6604705aMods
