/-
  SEAT b6604705aM: the walk of zzBytes_FnEncodeHeaderDecodesBack.
-/
import Derived.Test.Qxb6604705aModsStrs
namespace Go.Proofs.Qxb6604705aMods
open Go.ChangeShapes Go.WideShapes Go.ChangeAt Go.RowKit

set_option maxHeartbeats 3200000 in
theorem zzBytesD_any (v u : Value) (n : Nat) (S : Nat → ByteArray) (m : Nat) (L : Nat → Nat) (V : Nat → Nat → ByteArray) (w : World) (hv : Strs w v n S) (hu : Vals w u m L V) (hn : n ≤ maxLen) (hm : m ≤ maxLen) (hL : ∀ i, i < m → L i ≤ maxLen) (hS : ∀ i, i < n → (S i).size ≤ maxLen) (hV : ∀ i, i < m → ∀ j, j < L i → (V i j).size ≤ maxLen) :
    Calls Trym.prog 7 #[v, u] w fun e w' => Answer (Bounds n S m L V) e ∧ w' = w := by
  unfold maxLen at hn hm hL hS hV
  obtain ⟨a, b, o, cap, rfl, ha, hc⟩ := hv
  obtain ⟨a1, b1, o1, cap1, f, rfl, ha1, hc1⟩ := hu
  by_cases hn1 : n ≤ 1048576
  case neg =>
    have hz : (1048576 : Int) < (n : Int) := by omega
    clear hc hc1 ha ha1 hL hS hV
    go_enter Trym.func7, Trym.ntmps7
    go_wp2
    go_ret
    exact ⟨Answer.no _, rfl⟩
  have hnz : ¬ (1048576 : Int) < (n : Int) := by omega
  have HL := hide hL
  have HS := hide hS
  have HV := hide hV
  have HC := hide hc
  have HC1 := hide hc1
  have HA := hide ha
  have HA1 := hide ha1
  clear hL hS hV hc hc1 ha ha1
  go_enter Trym.func7, Trym.ntmps7
  go_wp2
  go_loop [5, 6] (fun z i => ∃ (k q : Nat), k ≤ n ∧ q ≤ 1048576 ∧ z = .int .i64 q ∧ i = .int .i64 k ∧ ∀ j, j < k → (S j).size ≤ 1048576) (fun _ i => n - (intOf i).toNat)
  case atStart => exact ⟨0, n, Nat.zero_le _, hn1, rfl, rfl, fun j hj => absurd hj (Nat.not_lt_zero _)⟩
  case round =>
    obtain ⟨k, q, hk, hq, rfl, rfl, hall⟩ := hrel
    have HALL := hide hall
    clear hall
    by_cases hlt : k < n
    · obtain rfl := unhide HA (by omega)
      have hcell := unhide HC k hlt
      have hsz := unhide HS k hlt
      have hltz : (k : Int) < (n : Int) := by omega
      by_cases h1 : (S k).size ≤ 1048576
      · have h1z : ¬ (1048576 : Int) < ((S k).size : Int) := by omega
        by_cases h2 : q + (S k).size ≤ 1048576
        · have h2z : ¬ (1048576 : Int) < (q : Int) + ((S k).size : Int) := by omega
          go_wp2
          go_round
          case rel => exact ⟨k + 1, q + (S k).size, by omega, by omega, by go_num, by go_num, fun j hj => by
            by_cases e : j = k
            · subst e; exact h1
            · exact unhide HALL j (by omega)⟩
          case measure => simp [intOf]; omega
        · have h2z : (1048576 : Int) < (q : Int) + ((S k).size : Int) := by omega
          go_wp2
          go_ret
          exact ⟨Answer.no _, rfl⟩
      · have h1z : (1048576 : Int) < ((S k).size : Int) := by omega
        go_wp2
        go_ret
        exact ⟨Answer.no _, rfl⟩
    · by_cases hm1 : m ≤ 1048576
      case neg =>
        have hz : (1048576 : Int) < (m : Int) := by omega
        go_wp2
        go_ret
        exact ⟨Answer.no _, rfl⟩
      have hmz : ¬ (1048576 : Int) < (m : Int) := by omega
      by_cases hqm : q + m ≤ 1048576
      case neg =>
        have hz : (1048576 : Int) < (q : Int) + (m : Int) := by omega
        go_wp2
        go_ret
        exact ⟨Answer.no _, rfl⟩
      have hqz : ¬ (1048576 : Int) < (q : Int) + (m : Int) := by omega
      have HNAME : Hid (∀ i, i < n → (S i).size ≤ 1048576) := fun i hi => unhide HALL i (by omega)
      clear HALL
      go_wp2
      go_loop [5, 7] (fun z i => ∃ (k q : Nat), k ≤ m ∧ q ≤ 1048576 ∧ z = .int .i64 q ∧ i = .int .i64 k ∧ ∀ j, j < k → L j + sumTo (fun t => (V j t).size) (L j) ≤ 1048576) (fun _ i => m - (intOf i).toNat)
      case atStart => exact ⟨0, q + m, Nat.zero_le _, hqm, by go_num, rfl, fun j hj => absurd hj (Nat.not_lt_zero _)⟩
      case round =>
        obtain ⟨k1, q1, hk1, hq1, rfl, rfl, hall1⟩ := hrel
        have HALL := hide hall1
        clear hall1
        by_cases hlt1 : k1 < m
        · obtain rfl := unhide HA1 (by omega)
          obtain ⟨hcell, a2, b2, o2, c2, hf2, ha2, hc2⟩ := unhide HC1 k1 hlt1
          rw [hf2] at hcell
          have hLk := unhide HL k1 hlt1
          have hVk := unhide HV k1 hlt1
          have HVK := hide hVk
          have HC2 := hide hc2
          have HA2 := hide ha2
          clear hVk hc2 ha2 hf2
          have hltz : (k1 : Int) < (m : Int) := by omega
          by_cases h1 : L k1 ≤ 1048576
          case neg =>
            have h1z : (1048576 : Int) < (L k1 : Int) := by omega
            go_wp2
            go_ret
            exact ⟨Answer.no _, rfl⟩
          have h1z : ¬ (1048576 : Int) < (L k1 : Int) := by omega
          by_cases h2 : q1 + L k1 ≤ 1048576
          case neg =>
            have h2z : (1048576 : Int) < (q1 : Int) + (L k1 : Int) := by omega
            go_wp2
            go_ret
            exact ⟨Answer.no _, rfl⟩
          have h2z : ¬ (1048576 : Int) < (q1 : Int) + (L k1 : Int) := by omega
          go_wp2
          go_loop [5, 8] (fun z i => ∃ (t q2 : Nat), t ≤ L k1 ∧ q2 ≤ 1048576 ∧ z = .int .i64 q2 ∧ i = .int .i64 t ∧ L k1 + sumTo (fun t => (V k1 t).size) t ≤ q2) (fun _ i => L k1 - (intOf i).toNat)
          case atStart => exact ⟨0, q1 + L k1, Nat.zero_le _, h2, by go_num, rfl, by simp [sumTo]⟩
          case round =>
            obtain ⟨t, q2, ht, hq2, rfl, rfl, hsum⟩ := hrel
            have HSUM := hide hsum
            clear hsum
            by_cases hlt2 : t < L k1
            · obtain rfl := unhide HA2 (by omega)
              have hcell2 := unhide HC2 t hlt2
              have hsz := unhide HVK t hlt2
              have hltz2 : (t : Int) < (L k1 : Int) := by omega
              by_cases h3 : (V k1 t).size ≤ 1048576
              case neg =>
                have h3z : (1048576 : Int) < ((V k1 t).size : Int) := by omega
                go_wp2
                go_ret
                exact ⟨Answer.no _, rfl⟩
              have h3z : ¬ (1048576 : Int) < ((V k1 t).size : Int) := by omega
              by_cases h4 : q2 + (V k1 t).size ≤ 1048576
              case neg =>
                have h4z : (1048576 : Int) < (q2 : Int) + ((V k1 t).size : Int) := by omega
                go_wp2
                go_ret
                exact ⟨Answer.no _, rfl⟩
              have h4z : ¬ (1048576 : Int) < (q2 : Int) + ((V k1 t).size : Int) := by omega
              go_wp2
              go_round
              case rel => exact ⟨t + 1, q2 + (V k1 t).size, by omega, by omega, by go_num, by go_num, by
                have := unhide HSUM
                show L k1 + (sumTo (fun t => (V k1 t).size) t + (V k1 t).size) ≤ _
                omega⟩
              case measure => simp [intOf]; omega
            · have hltz2 : ¬ (t : Int) < (L k1 : Int) := by omega
              go_wp2
              go_round
              case rel => exact ⟨k1 + 1, q2, by omega, by omega, rfl, by go_num, fun j hj => by
                by_cases e : j = k1
                · subst e
                  have := unhide HSUM
                  have et : t = L j := by omega
                  rw [et] at this
                  omega
                · exact unhide HALL j (by omega)⟩
              case measure => simp [intOf]; omega
        · have hltz : ¬ (k1 : Int) < (m : Int) := by omega
          go_wp2
          go_ret
          exact ⟨Answer.yes ⟨hn1, unhide HNAME, hm1, fun i hi => unhide HALL i (by omega)⟩, rfl⟩

end Go.Proofs.Qxb6604705aMods
