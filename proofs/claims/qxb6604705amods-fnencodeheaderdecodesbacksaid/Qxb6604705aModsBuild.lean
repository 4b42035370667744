/-
  SEAT b6604705aM: the map of strings to slices that the call makes, its elements read as tokens (their own values); the walk of ehBuild.
-/
import Derived.Test.Qxb6604705aModsStrs
import Derived.Maps.RangeWalk
namespace Go.Proofs.Qxb6604705aMods
open Go.ChangeShapes Go.WideShapes Go.ChangeAt Go.RowKit

/-- An element that is a slice reads as itself. -/
def tokElem : Value → Option (DataW Value × List MemPlace)
  | .slice a n c => some (.held (.slice a n c), [])
  | _ => none

theorem tokElem_slice (a : Option Addr) (n c : Nat) : tokElem (.slice a n c) = some (.held (.slice a n c), []) := rfl
theorem tokElem_inv {v : Value} {y : DataW Value × List MemPlace} (h : tokElem v = some y) : ∃ a n c, v = .slice a n c ∧ y = (.held v, []) := by
  cases v <;> simp [tokElem] at h
  exact ⟨_, _, _, rfl, h.symm⟩

theorem law : Maps.Keyed Trym.prog 9 := Maps.string_keyed Trym.underlying9

/-- What a string reads as, as a key. -/
def keyLit (s : ByteArray) : Lit := .string s.data.toList
theorem keyOf_str {s : ByteArray} (h : s.size ≤ 1048576) : keyOf Trym.prog 9 (.string s) = some (keyLit s) := WideMaps.keyOf_string_mk Trym.underlying9 (by unfold maxLen; omega)
theorem keyLit_inj {s t : ByteArray} (h : keyLit s = keyLit t) : s = t := by
  simp [keyLit] at h
  exact ByteArray.ext h
theorem isKey (s : ByteArray) : WideAt.IsKeyLit (keyLit s) := by trivial
theorem keyOf_inv {key : Value} {kl : Lit} (h : keyOf Trym.prog 9 key = some kl) : ∃ s, key = .string s ∧ kl = keyLit s := by
  cases key <;> simp [keyOf, Trym.underlying9, mapKey] at h
  exact ⟨_, rfl, h.2.symm⟩

/-- What stands in the map behind the first k names: val i at the last i of each name. -/
structure Built (S : Nat → ByteArray) (val : Nat → Value) (k : Nat) (D : DataW Value) : Prop where
  has : ∀ i, i < k → Maps.has D (keyLit (S i)) = true
  at_ : ∀ kl, Maps.has D kl = true → ∃ i, i < k ∧ kl = keyLit (S i) ∧ D.atKey kl .nil = .held (val i)

theorem Built.zero (S : Nat → ByteArray) (val : Nat → Value) : Built S val 0 (.map []) :=
  ⟨fun i hi => absurd hi (Nat.not_lt_zero _), fun kl h => by simp [Maps.has] at h⟩

theorem Built.step {S : Nat → ByteArray} {val : Nat → Value} {k : Nat} {D : DataW Value} (h : Built S val k D) (hD : Maps.IsMap D) : Built S val (k + 1) (D.put (keyLit (S k)) (.held (val k))) := by
  refine ⟨fun i hi => ?_, fun kl hkl => ?_⟩
  · by_cases e : keyLit (S i) = keyLit (S k)
    · rw [e]; exact Maps.has_put_same hD (isKey _) _
    · rw [Maps.has_put_other e]
      refine h.has i ?_
      by_cases e2 : i = k
      · subst e2; exact absurd rfl e
      · omega
  · by_cases e : kl = keyLit (S k)
    · subst e
      exact ⟨k, by omega, rfl, Maps.atKey_put_same hD (isKey _) _ _⟩
    · rw [Maps.has_put_other e] at hkl
      obtain ⟨i, hi, hk, ha⟩ := h.at_ kl hkl
      exact ⟨i, by omega, hk, by rw [Maps.atKey_put_other e]; exact ha⟩

/-- The value at i: the i-th of vals, or nil. -/
def valAt (m : Nat) (f : Nat → Value) (i : Nat) : Value := if i < m then f i else .slice none 0 0

set_option maxHeartbeats 1600000 in
theorem build_any (v : Value) (n : Nat) (S : Nat → ByteArray) (a1 : Option Addr) (b1 o1 m cap1 : Nat) (f : Nat → Value) (w : World) (hv : Strs w v n S) (hn : n ≤ 1048576) (hm : m ≤ 1048576) (hS : ∀ i, i < n → (S i).size ≤ 1048576)
    (ha1 : 0 < m → a1 = some ⟨b1, o1, none⟩) (hc1 : ∀ i, i < m → w.cell? ⟨b1, o1 + i, none⟩ = some (f i)) (hf : ∀ i, i < m → ∃ a n c, f i = .slice a n c) :
    Calls Trym.prog 11 #[v, .slice a1 m cap1] w fun e w' => e = .returned (.map (some w.heap.size)) ∧ (∃ D, w'.ownsMap Trym.prog 9 tokElem w.heap.size n D ∧ Built S (valAt m f) n D) ∧ Below w.heap.size w w' := by
  obtain ⟨a, b, o, cap, rfl, ha, hc⟩ := hv
  have hmm : ∀ (w : World) (k : Int), (Instr.makeMap 27 (some (.int .i64 k))).run Trym.prog w = .ok (.map (some w.heap.size)) (w.alloc (.map #[] 0)) := fun w k => by
    simp [Instr.makeMap, run_underlying Trym.underlying27]
    rfl
  have HC := hide hc
  have HC1 := hide hc1
  have HA := hide ha
  have HA1 := hide ha1
  have HS := hide hS
  have HF := hide hf
  clear hc hc1 ha ha1 hS hf
  go_enter Trym.func11, Trym.ntmps11
  go_wp2
  clear hmm
  go_loopw [6] (fun i wr => ∃ (k : Nat) (D : DataW Value), k ≤ n ∧ i = .int .i64 k ∧ wr.ownsMap Trym.prog 9 tokElem w.heap.size k D ∧ Built S (valAt m f) k D ∧ Below w.heap.size w wr)
    (fun i _ => n - (intOf i).toNat)
  case atStart => exact ⟨0, .map [], Nat.zero_le _, rfl, World.ownsMap_made _ _ _ _, Built.zero _ _, (Below.refl _ _).alloc (Nat.le_refl _) _⟩
  case round =>
    obtain ⟨k, D, hk, rfl, hown, hbuilt, hnx⟩ := hrel
    have HB := hide hbuilt
    clear hbuilt
    by_cases hlt : k < n
    · obtain rfl := unhide HA (by omega)
      have hcell : wr.cell? ⟨b, o + k, none⟩ = some (.string (S k)) := (hnx.cell (p := ⟨b, o + k, none⟩) (World.block_lt_of_cell? _ _ (unhide HC k hlt))).trans (unhide HC k hlt)
      have hltz : (k : Int) < (n : Int) := by omega
      have hkey := keyOf_str (unhide HS k hlt)
      by_cases hkm : k < m
      · obtain rfl := unhide HA1 (by omega)
        have hkz : (k : Int) < (m : Int) := by omega
        obtain ⟨fa, fn, fc, hfk⟩ := unhide HF k hkm
        have hcell1 : wr.cell? ⟨b1, o1 + k, none⟩ = some (.slice fa fn fc) := by
          rw [← hfk]
          exact (hnx.cell (p := ⟨b1, o1 + k, none⟩) (World.block_lt_of_cell? _ _ (unhide HC1 k hkm))).trans (unhide HC1 k hkm)
        have HV : Hid (valAt m f k = .slice fa fn fc) := by rw [Hid, valAt, if_pos hkm]; exact hfk
        clear hfk
        go_wp2_with (at_mapUpdate; refine wpList_mapUpdate_own _ rfl _ _ _ 27 rfl 9 22 law Trym.underlying27 _ w.heap.size k _ rfl hown (by unfold maxLen; omega) _ _ _ rfl rfl hkey _ [] (tokElem_slice fa fn fc) ?_)
        intro w1 hown1 hgrow1
        have R1 := (unhide HB).step hown.isMap
        rw [unhide HV] at R1
        have R2 := hnx.grown hgrow1 hnx.size (fun j hj => by cases hj; exact Nat.le_refl _)
        have HR1 := hide R1
        clear hgrow1 hown R1
        go_wp2
        go_roundw
        case rel => exact ⟨k + 1, _, by omega, by go_num, hown1, unhide HR1, R2⟩
        case measure => simp [intOf]; omega
      · have hkz : ¬ (k : Int) < (m : Int) := by omega
        have HV : Hid (valAt m f k = .slice none 0 0) := by rw [Hid, valAt, if_neg hkm]
        go_wp2_with (at_mapUpdate; refine wpList_mapUpdate_own _ rfl _ _ _ 27 rfl 9 22 law Trym.underlying27 _ w.heap.size k _ rfl hown (by unfold maxLen; omega) _ _ _ rfl rfl hkey _ [] (tokElem_slice none 0 0) ?_)
        intro w1 hown1 hgrow1
        have R1 := (unhide HB).step hown.isMap
        rw [unhide HV] at R1
        have R2 := hnx.grown hgrow1 hnx.size (fun j hj => by cases hj; exact Nat.le_refl _)
        have HR1 := hide R1
        clear hgrow1 hown R1
        go_wp2
        go_roundw
        case rel => exact ⟨k + 1, _, by omega, by go_num, hown1, unhide HR1, R2⟩
        case measure => simp [intOf]; omega
    · have hltz : ¬ (k : Int) < (n : Int) := by omega
      obtain rfl : k = n := by omega
      go_wp2
      go_ret
      exact ⟨rfl, ⟨D, hown, unhide HB⟩, hnx⟩

end Go.Proofs.Qxb6604705aMods
