/-
  SEAT b6604705aM: the two arguments opened: a slice of strings, a slice of slices of strings.
-/
import Derived.Test.Qxb6604705aModsStrs
import Derived.SliceStrings
import Derived.Deep.Slices
namespace Go.Proofs.Qxb6604705aMods
open Go.ChangeShapes Go.WideShapes Go.ChangeAt Go.RowKit Go.Deep

theorem Trym.cells9 : Trym.prog.cellsOf 9 = 1 := by kernel_rfl
theorem Trym.cells22 : Trym.prog.cellsOf 22 = 1 := by kernel_rfl

section
variable {H : Type} {enc : TypeId × Value → H} {W : World} {base : Nat} {spare : Nat → Bool} {held : Bool}

theorem open_names {fuel : Nat} {v : Value} {x : DataW H × List MemPlace} (h : DataW.trod enc Trym.prog W base spare held fuel 22 [v] = some x) :
    ∃ (n : Nat) (S : Nat → ByteArray), Strs W v n S ∧ n ≤ maxLen ∧ ∀ i, i < n → (S i).size ≤ maxLen := by
  rcases open_strings Trym.underlying22 Trym.underlying9 Trym.cells9 h with ⟨hcs, _⟩ | ⟨a, len, cap, ss, hcs, _, hl, hm, hz, _, hcell, hws⟩
  · simp at hcs
    subst hcs
    exact ⟨0, fun _ => ByteArray.empty, Strs.nil _ _, Nat.zero_le _, fun _ hi => absurd hi (Nat.not_lt_zero _)⟩
  · simp at hcs
    subst hcs
    have hlz : len ≤ ss.length := by rw [hz]; split <;> omega
    obtain ⟨b, o, spot⟩ := a
    refine ⟨len, fun i => ss.getD i ByteArray.empty, ⟨some ⟨b, o, spot⟩, b, o, cap, rfl, fun hpos => ?_, fun i hi => ?_⟩, by omega, fun i hi => ?_⟩
    · have hspot : spot = none := by simpa [Addr.add] using World.cell?_spot (hcell 0 (by omega))
      rw [hspot]
    · have hspot : spot = none := by simpa [Addr.add] using World.cell?_spot (hcell 0 (by omega))
      subst hspot
      rw [← add_plain]; exact hcell i (by omega)
    · have hi' : i < ss.length := by omega
      have : ss.getD i ByteArray.empty = ss[i] := by simp [hi']
      show (ss.getD i ByteArray.empty).size ≤ maxLen
      rw [this]; exact hws _ (List.getElem_mem hi')

theorem open_vals {fuel : Nat} {v : Value} {x : DataW H × List MemPlace} (h : DataW.trod enc Trym.prog W base spare held fuel 23 [v] = some x) :
    ∃ (m : Nat) (L : Nat → Nat) (V : Nat → Nat → ByteArray), Vals W v m L V ∧ m ≤ maxLen ∧ (∀ i, i < m → L i ≤ maxLen) ∧ ∀ i, i < m → ∀ j, j < L i → (V i j).size ≤ maxLen := by
  rcases open_slice1 Trym.underlying23 Trym.cells22 h with ⟨hcs, _⟩ | ⟨a, len, cap, m, n, f, D, Pl, hcs, _, hl, hm, hmm, _, hx⟩
  · simp at hcs
    subst hcs
    exact ⟨0, fun _ => 0, fun _ _ => ByteArray.empty, ⟨none, 0, 0, 0, fun _ => .slice none 0 0, rfl, fun h => absurd h (Nat.lt_irrefl _), fun _ hi => absurd hi (Nat.not_lt_zero _)⟩, Nat.zero_le _, fun _ hi => absurd hi (Nat.not_lt_zero _), fun _ hi => absurd hi (Nat.not_lt_zero _)⟩
  · simp at hcs
    subst hcs
    have hlm : len ≤ m := by rw [hmm]; split <;> omega
    obtain ⟨b, o, spot⟩ := a
    obtain ⟨g, hg⟩ := choose_lt (α := Nat × (Nat → ByteArray)) (n := len) (p := fun i q => Strs W (f i) q.1 q.2 ∧ q.1 ≤ maxLen ∧ ∀ j, j < q.1 → (q.2 j).size ≤ maxLen) (fun i hi => by
      obtain ⟨n', S', h1, h2, h3⟩ := open_names (hx i (by omega)).2
      exact ⟨(n', S'), h1, h2, h3⟩)
    refine ⟨len, fun i => (g i).1, fun i => (g i).2, ⟨some ⟨b, o, spot⟩, b, o, cap, f, rfl, fun hpos => ?_, fun i hi => ⟨?_, (hg i hi).1⟩⟩, by omega, fun i hi => (hg i hi).2.1, fun i hi => (hg i hi).2.2⟩
    · have hspot : spot = none := by simpa [Addr.add] using World.cell?_spot (hx 0 (by omega)).1
      rw [hspot]
    · have hspot : spot = none := by simpa [Addr.add] using World.cell?_spot (hx 0 (by omega)).1
      subst hspot
      rw [← add_plain]; exact (hx i (by omega)).1

end
end Go.Proofs.Qxb6604705aMods
