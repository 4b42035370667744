/-
  SEAT b6604705aM: the walk of ehReadStr.
-/
import Derived.Test.Qxb6604705aModsRead
import Derived.Laws.BytesArg
namespace Go.Proofs.Qxb6604705aMods
open Go.ChangeShapes Go.WideShapes Go.ChangeAt Go.RowKit

/-- The numbers of a string's bytes. -/
def numsOf (s : ByteArray) : List Int := s.data.toList.map fun b => ((b.toNat : Nat) : Int)

theorem numsOf_length (s : ByteArray) : (numsOf s).length = s.size := by
  unfold numsOf; rw [List.length_map, size_toList]

theorem strOfNums_numsOf (s : ByteArray) : strOfNums (numsOf s) = s := by
  refine ByteArray.ext (Array.ext' ?_)
  rw [strOfNums_data, numsOf, List.map_map]
  have : (fun n : Int => UInt8.ofNat n.toNat) ∘ (fun b : UInt8 => ((b.toNat : Nat) : Int)) = id := by
    funext b
    simp
  rw [this, List.map_id]

theorem numsOf_getD (s : ByteArray) (i : Nat) : (numsOf s).getD i 0 = (((s.data.toList.getD i 0).toNat : Nat) : Int) := by
  by_cases h : i < s.data.toList.length
  · simp [numsOf, List.getD, List.getElem?_eq_getElem h]
  · simp [numsOf, List.getD, List.getElem?_eq_none (show s.data.toList.length ≤ i by omega)]

set_option maxRecDepth 100000 in
set_option maxHeartbeats 800000 in
theorem readStr_core (g N cap p q z : Nat) (s : ByteArray) (w : World) (hN : N ≤ 140737488355328) (hle : q + z ≤ N) (hcap : N ≤ cap) (hz : z ≤ 1048576)
    (hRU : Calls Trym.prog 13 #[.slice (some ⟨g, 0, none⟩) N cap, .int .i64 p] w fun e w' => e = .returned (.tuple #[.int .u64 z, .int .i64 (q : Int), .bool true]) ∧ w' = w)
    (hconv : ∀ c, (convert 29 9 (.slice (some ⟨g, q, none⟩) z c)).run Trym.prog w = .ok (.string s) w) (hconv0 : z = 0 → ∀ c, (convert 29 9 (.slice (some ⟨g, 0, none⟩) 0 c)).run Trym.prog w = .ok (.string s) w) :
    Calls Trym.prog 14 #[.slice (some ⟨g, 0, none⟩) N cap, .int .i64 p] w fun e w' => e = .returned (.tuple #[.string s, .int .i64 ((q : Int) + (z : Int)), .bool true]) ∧ w' = w := by
  have HRU := hide hRU
  clear hRU
  have t1 : ¬ (N : Int) - (q : Int) < (z : Int) := by omega
  have t2 : (q : Int) ≤ (q : Int) + (z : Int) := by omega
  have t3 : (q : Int) + (z : Int) ≤ (cap : Int) := by omega
  go_enter Trym.func14, Trym.ntmps14
  go_wp2_with fail
  refine (unhide HRU).mono ?_
  rintro e w9 ⟨rfl, rfl⟩
  clear HRU
  by_cases hcq : cap = q
  · obtain rfl : z = 0 := by omega
    have hconv0 := hconv0 rfl
    go_wp2
    go_ret3
    exact ⟨rfl, rfl⟩
  · clear hconv0
    go_wp2
    go_ret3
    exact ⟨rfl, rfl⟩

theorem readStr_any (v : Value) (bs rest : List UInt8) (p : Nat) (s : ByteArray) (w : World) (hb : Bs w v bs) (hN : bs.length ≤ 140737488355328) (hs : s.size ≤ 1048576) (hd : bs.drop p = strBytes s ++ rest) :
    Calls Trym.prog 14 #[v, .int .i64 p] w fun e w' => e = .returned (.tuple #[.string s, .int .i64 ((p + (strBytes s).length : Nat) : Int), .bool true]) ∧ w' = w := by
  have hRU := readUv_any v bs (s.data.toList ++ rest) p s.size w hb hN (by omega) (by rw [hd, strBytes, List.append_assoc])
  have hlen := strBytes_length s
  obtain ⟨q, hq⟩ : ∃ q, q = p + (Lib.uvarint s.size).length := ⟨_, rfl⟩
  have hd2 : bs.drop q = s.data.toList ++ rest := by
    rw [hq, ← List.drop_drop, hd, strBytes, List.append_assoc, List.drop_left]
  have hup := Lib.uvarint_pos s.size
  have hle : q + s.size ≤ bs.length := by
    have := len_drop hd (by omega)
    omega
  obtain ⟨g, cap, rfl, hcap, hc⟩ := hb
  have hcell : ∀ i, i < s.size → w.cell? ⟨g, q + i, none⟩ = some (.int .u8 ((numsOf s).getD i 0)) := fun i hi => by
    have hi2 : i < s.data.toList.length := by rw [size_toList]; exact hi
    rw [hc (q + i) (by omega), byte_at hd2 i hi2, numsOf_getD, List.getD_eq_getElem?_getD, List.getElem?_eq_getElem hi2, Option.getD_some]
  have hconv : ∀ c, (convert 29 9 (.slice (some ⟨g, q, none⟩) s.size c)).run Trym.prog w = .ok (.string s) w := fun c => by
    have := run_convert_bytes_arg w 29 5 Trym.underlying29 Trym.underlying5 g q s.size c (numsOf s) (numsOf_length s) hcell 9 Trym.underlying9
    rw [strOfNums_numsOf] at this
    exact this
  rw [← hq] at hRU
  have e1 : ((p + (strBytes s).length : Nat) : Int) = (q : Int) + (s.size : Int) := by omega
  rw [e1]
  exact readStr_core g bs.length cap p q s.size s w hN hle hcap hs hRU hconv (fun h0 c => by
    have := run_convert_bytes_arg w 29 5 Trym.underlying29 Trym.underlying5 g 0 0 c (numsOf s) (by rw [numsOf_length, h0]) (fun i hi => by omega) 9 Trym.underlying9
    rw [strOfNums_numsOf] at this
    exact this)

end Go.Proofs.Qxb6604705aMods
