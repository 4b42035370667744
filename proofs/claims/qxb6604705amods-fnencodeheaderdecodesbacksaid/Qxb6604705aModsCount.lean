/-
  SEAT b6604705aM: sums over the fields that have been counted; what both laws need of the map and of its elements.
-/
import Derived.Test.Qxb6604705aModsEncode
import Derived.Test.Qxb6604705aModsRead
namespace Go.Proofs.Qxb6604705aMods
open Go.ChangeShapes Go.WideShapes Go.ChangeAt Go.RowKit

/-- Is s among the first k names? -/
def seenB (S : Nat → ByteArray) (k : Nat) (s : ByteArray) : Bool := (List.range k).any (fun j => decide ((S j).data.toList = s.data.toList))

theorem bytes_eq {s t : ByteArray} (h : s.data.toList = t.data.toList) : s = t := ByteArray.ext (Array.ext' h)

theorem seenB_iff {S : Nat → ByteArray} {k : Nat} {s : ByteArray} : seenB S k s = true ↔ ∃ j, j < k ∧ S j = s := by
  simp only [seenB, List.any_eq_true, List.mem_range, decide_eq_true_eq]
  constructor
  · rintro ⟨j, hj, e⟩; exact ⟨j, hj, bytes_eq e⟩
  · rintro ⟨j, hj, rfl⟩; exact ⟨j, hj, rfl⟩

theorem seenB_succ (S : Nat → ByteArray) (k : Nat) (s : ByteArray) : seenB S (k + 1) s = (seenB S k s || decide ((S k).data.toList = s.data.toList)) := by
  simp [seenB, List.range_succ]

/-- The sum of the counted fields' lengths. -/
def sumIf (f : ByteArray → Bool) (cost : ByteArray × Value → Nat) : List (ByteArray × Value) → Nat
  | [] => 0
  | p :: l => (if f p.1 then cost p else 0) + sumIf f cost l

theorem sumIf_congr {f g : ByteArray → Bool} (cost : ByteArray × Value → Nat) : ∀ {l : List (ByteArray × Value)}, (∀ p ∈ l, f p.1 = g p.1) → sumIf f cost l = sumIf g cost l
  | [], _ => rfl
  | p :: l, h => by
    simp only [sumIf]
    rw [h p (List.mem_cons_self), sumIf_congr cost (fun q hq => h q (List.mem_cons_of_mem _ hq))]

theorem sumIf_add {f g : ByteArray → Bool} (cost : ByteArray × Value → Nat) {p : ByteArray × Value} : ∀ {l : List (ByteArray × Value)}, l.Pairwise (fun p q => p.1 ≠ q.1) → p ∈ l → f p.1 = false → g p.1 = true → (∀ q : ByteArray × Value, q.1 ≠ p.1 → g q.1 = f q.1) → sumIf g cost l = sumIf f cost l + cost p
  | [], _, h, _, _, _ => by cases h
  | q :: l, hp, h, h1, h2, h3 => by
    obtain ⟨ha, hb⟩ := List.pairwise_cons.1 hp
    simp only [sumIf]
    rcases List.mem_cons.1 h with e | h'
    · subst e
      rw [h1, h2, sumIf_congr cost (f := g) (g := f) (fun r hr => h3 r (fun e => ha r hr e.symm))]
      simp
      omega
    · have hne : q.1 ≠ p.1 := ha p h'
      rw [h3 q hne, sumIf_add cost hb h' h1 h2 h3]
      omega

theorem sumIf_all {f : ByteArray → Bool} {F : Value → List ByteArray} : ∀ {l : List (ByteArray × Value)}, (∀ p ∈ l, f p.1 = true) → sumIf f (fun p => (entBytes F p).length) l = (entsBytes F l).length
  | [], _ => rfl
  | p :: l, h => by
    simp only [sumIf]
    rw [h p (List.mem_cons_self), sumIf_all (fun q hq => h q (List.mem_cons_of_mem _ hq))]
    simp [entsBytes]

theorem sumIf_le {f : ByteArray → Bool} {F : Value → List ByteArray} : ∀ (l : List (ByteArray × Value)), sumIf f (fun p => (entBytes F p).length) l ≤ (entsBytes F l).length
  | [] => Nat.le_refl _
  | p :: l => by
    have ih := sumIf_le (f := f) (F := F) l
    have e : (entsBytes F (p :: l)).length = (entBytes F p).length + (entsBytes F l).length := by simp [entsBytes]
    simp only [sumIf]
    rw [e]
    split <;> omega

/-- The name at k, counted for the first time. -/
theorem sumIf_new {S : Nat → ByteArray} {k : Nat} (cost : ByteArray × Value → Nat) {l : List (ByteArray × Value)} {v : Value} (hp : l.Pairwise (fun p q => p.1 ≠ q.1)) (h : (S k, v) ∈ l) (hn : seenB S k (S k) = false) :
    sumIf (seenB S (k + 1)) cost l = sumIf (seenB S k) cost l + cost (S k, v) := by
  refine sumIf_add cost hp h hn ?_ (fun q hq => ?_)
  · show seenB S (k + 1) (S k) = true
    rw [seenB_succ]; simp
  · rw [seenB_succ]
    have : decide ((S k).data.toList = q.1.data.toList) = false := decide_eq_false (fun e => hq (bytes_eq e).symm)
    rw [this]; simp

/-- .. counted before. -/
theorem seenB_old {S : Nat → ByteArray} {k : Nat} (h : seenB S k (S k) = true) (s : ByteArray) : seenB S (k + 1) s = seenB S k s := by
  rw [seenB_succ]
  by_cases e : (S k).data.toList = s.data.toList
  · rw [← bytes_eq e, h]; simp
  · simp [e]

/-! ### The map -/
theorem ownsMap_below {H : Type} {R : Value → Option (DataW H × List MemPlace)} {w w' : World} {b n : Nat} {D : DataW H} (h : w.ownsMap Trym.prog 9 R b n D) (hb : Below w.heap.size w w') : w'.ownsMap Trym.prog 9 R b n D := by
  have hlt := h.lt
  obtain ⟨es, clock, hbk, r⟩ := h
  exact ⟨es, clock, (hb.block b hlt).trans hbk, r⟩

theorem atKey_of_has {H : Type} {D : DataW H} {kl : Lit} (h : Maps.has D kl = true) (z z' : DataW H) : D.atKey kl z = D.atKey kl z' := by
  cases D <;> try (simp [Maps.has] at h; done)
  rename_i es
  show (match es.find? (fun p => p.1.sameKey kl) with | some p => p.2 | none => z) = (match es.find? (fun p => p.1.sameKey kl) with | some p => p.2 | none => z')
  cases hf : es.find? (fun p => p.1.sameKey kl) with
  | some p => rfl
  | none =>
    obtain ⟨p, hp, hk⟩ := List.any_eq_true.1 h
    have := List.find?_eq_none.1 hf p hp
    exact absurd hk this

/-- Each element that the map holds is a good slice; the choice of its strings. -/
theorem choose_strs (w : World) : ∃ F : Value → List ByteArray, ∀ v ss, Good w v ss → Good w v (F v) := by
  classical
  exact ⟨fun v => if h : ∃ ss, Good w v ss then h.choose else [], fun v ss hg => by
    have h : ∃ ss, Good w v ss := ⟨ss, hg⟩
    simp only [dif_pos h]
    exact h.choose_spec⟩

/-- n strings as a list. -/
theorem good_of_strs {w : World} {v : Value} {n : Nat} {S : Nat → ByteArray} (h : Strs w v n S) (hb : n + sumTo (fun j => (S j).size) n ≤ 1048576) : ∃ ss, Good w v ss := by
  have hl : ((List.range n).map S).length = n := by simp
  have ht : ∀ k, total ((List.range k).map S) = sumTo (fun j => (S j).size) k := by
    intro k
    induction k with
    | zero => rfl
    | succ k ih =>
      have hsn : ∀ (l : List ByteArray) (s : ByteArray), total (l ++ [s]) = total l + s.size := by
        intro l s
        induction l with
        | nil => simp [total]
        | cons a l ih2 => rw [List.cons_append, total_cons, total_cons, ih2]; omega
      rw [List.range_succ, List.map_append, List.map_cons, List.map_nil, hsn, ih]
      rfl
  refine ⟨(List.range n).map S, ?_, by rw [hl, ht]; exact hb⟩
  obtain ⟨a, b, o, cap, hv, ha, hc⟩ := h
  refine ⟨a, b, o, cap, by rw [hl]; exact hv, by rw [hl]; exact ha, fun i hi => ?_⟩
  rw [hl] at hi
  rw [hc i hi]
  simp [nth, hi]

end Go.Proofs.Qxb6604705aMods
