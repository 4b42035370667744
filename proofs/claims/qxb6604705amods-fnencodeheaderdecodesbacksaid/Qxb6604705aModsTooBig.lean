/-
  SEAT b6604705aM: the walk of ehTooBig.
-/
import Derived.Test.Qxb6604705aModsStrs
namespace Go.Proofs.Qxb6604705aMods
open Go.ChangeShapes Go.WideShapes Go.ChangeAt Go.RowKit

set_option maxHeartbeats 3200000 in
theorem tooBig_any (v u : Value) (n : Nat) (S : Nat → ByteArray) (m : Nat) (L : Nat → Nat) (V : Nat → Nat → ByteArray) (w : World) (hv : Strs w v n S) (hu : Vals w u m L V) (B : Bounds n S m L V) :
    Calls Trym.prog 8 #[v, u] w fun e w' => Answer True e ∧ w' = w := by
  obtain ⟨a, b, o, cap, rfl, ha, hc⟩ := hv
  obtain ⟨a1, b1, o1, cap1, f, rfl, ha1, hc1⟩ := hu
  have hnn := B.names
  have hmm := B.vals
  have HC := hide hc
  have HC1 := hide hc1
  have HA := hide ha
  have HA1 := hide ha1
  have HB := hide B
  clear hc hc1 ha ha1 B
  by_cases hn1 : n ≤ 65536
  case neg =>
    have hz : (65536 : Int) < (n : Int) := by omega
    go_enter Trym.func8, Trym.ntmps8
    go_wp2
    go_ret
    exact ⟨Answer.yes trivial, rfl⟩
  have hnz : ¬ (65536 : Int) < (n : Int) := by omega
  by_cases hm1 : m ≤ 65536
  case neg =>
    have hz : (65536 : Int) < (m : Int) := by omega
    go_enter Trym.func8, Trym.ntmps8
    go_wp2
    go_ret
    exact ⟨Answer.yes trivial, rfl⟩
  have hmz : ¬ (65536 : Int) < (m : Int) := by omega
  go_enter Trym.func8, Trym.ntmps8
  go_wp2
  go_loop [5, 6] (fun z i => ∃ (k q : Nat), k ≤ n ∧ q ≤ 4194304 ∧ z = .int .i64 q ∧ i = .int .i64 k) (fun _ i => n - (intOf i).toNat)
  case atStart => exact ⟨0, 16 * n + 24 * m, Nat.zero_le _, by omega, by go_num, rfl⟩
  case round =>
    obtain ⟨k, q, hk, hq, rfl, rfl⟩ := hrel
    by_cases hlt : k < n
    · obtain rfl := unhide HA (by omega)
      have hcell := unhide HC k hlt
      have hsz := (unhide HB).name k hlt
      have hltz : (k : Int) < (n : Int) := by omega
      by_cases h2 : q + (S k).size ≤ 1048576
      · have h2z : ¬ (1048576 : Int) < (q : Int) + ((S k).size : Int) := by omega
        go_wp2
        go_round
        case rel => exact ⟨k + 1, q + (S k).size, by omega, by omega, by go_num, by go_num⟩
        case measure => simp [intOf]; omega
      · have h2z : (1048576 : Int) < (q : Int) + ((S k).size : Int) := by omega
        go_wp2
        go_ret
        exact ⟨Answer.yes trivial, rfl⟩
    · have hltz : ¬ (k : Int) < (n : Int) := by omega
      go_wp2
      go_loop [5, 7] (fun z i => ∃ (k q : Nat), k ≤ m ∧ q ≤ 4194304 ∧ z = .int .i64 q ∧ i = .int .i64 k) (fun _ i => m - (intOf i).toNat)
      case atStart => exact ⟨0, q, Nat.zero_le _, hq, rfl, rfl⟩
      case round =>
        obtain ⟨k1, q1, hk1, hq1, rfl, rfl⟩ := hrel
        by_cases hlt1 : k1 < m
        · obtain rfl := unhide HA1 (by omega)
          obtain ⟨hcell, a2, b2, o2, c2, hf2, ha2, hc2⟩ := unhide HC1 k1 hlt1
          rw [hf2] at hcell
          have hLk := (unhide HB).val k1 hlt1
          have hLk' : L k1 ≤ 1048576 := by omega
          have HLK := hide hLk
          have HC2 := hide hc2
          have HA2 := hide ha2
          clear hLk hc2 ha2 hf2
          have hltz : (k1 : Int) < (m : Int) := by omega
          by_cases h1 : L k1 ≤ 65536
          case neg =>
            have h1z : (65536 : Int) < (L k1 : Int) := by omega
            go_wp2
            go_ret
            exact ⟨Answer.yes trivial, rfl⟩
          have h1z : ¬ (65536 : Int) < (L k1 : Int) := by omega
          by_cases h2 : q1 + 16 * L k1 ≤ 1048576
          case neg =>
            have h2z : (1048576 : Int) < (q1 : Int) + 16 * (L k1 : Int) := by omega
            go_wp2
            go_ret
            exact ⟨Answer.yes trivial, rfl⟩
          have h2z : ¬ (1048576 : Int) < (q1 : Int) + 16 * (L k1 : Int) := by omega
          go_wp2
          go_loop [5, 8] (fun z i => ∃ (t q2 : Nat), t ≤ L k1 ∧ q2 ≤ 4194304 ∧ z = .int .i64 q2 ∧ i = .int .i64 t) (fun _ i => L k1 - (intOf i).toNat)
          case atStart => exact ⟨0, q1 + 16 * L k1, Nat.zero_le _, by omega, by go_num, rfl⟩
          case round =>
            obtain ⟨t, q2, ht, hq2, rfl, rfl⟩ := hrel
            by_cases hlt2 : t < L k1
            · obtain rfl := unhide HA2 (by omega)
              have hcell2 := unhide HC2 t hlt2
              have hsz : (V k1 t).size ≤ 1048576 := by
                have h5 := unhide HLK
                have h6 := sumTo_le (f := fun t => (V k1 t).size) (j := t + 1) (k := L k1) (by omega)
                have h7 : sumTo (fun t => (V k1 t).size) (t + 1) = sumTo (fun t => (V k1 t).size) t + (V k1 t).size := rfl
                omega
              have hltz2 : (t : Int) < (L k1 : Int) := by omega
              by_cases h4 : q2 + (V k1 t).size ≤ 1048576
              case neg =>
                have h4z : (1048576 : Int) < (q2 : Int) + ((V k1 t).size : Int) := by omega
                go_wp2
                go_ret
                exact ⟨Answer.yes trivial, rfl⟩
              have h4z : ¬ (1048576 : Int) < (q2 : Int) + ((V k1 t).size : Int) := by omega
              go_wp2
              go_round
              case rel => exact ⟨t + 1, q2 + (V k1 t).size, by omega, by omega, by go_num, by go_num⟩
              case measure => simp [intOf]; omega
            · have hltz2 : ¬ (t : Int) < (L k1 : Int) := by omega
              go_wp2
              go_round
              case rel => exact ⟨k1 + 1, q2, by omega, by omega, rfl, by go_num⟩
              case measure => simp [intOf]; omega
        · have hltz : ¬ (k1 : Int) < (m : Int) := by omega
          go_wp2
          go_ret
          exact ⟨⟨_, rfl, fun _ => trivial⟩, rfl⟩

end Go.Proofs.Qxb6604705aMods
