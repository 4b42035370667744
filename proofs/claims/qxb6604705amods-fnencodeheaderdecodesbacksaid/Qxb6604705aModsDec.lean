/-
  SEAT b6604705aM: where in the encoding each piece lies; what the decoding loops keep.
-/
import Derived.Test.Qxb6604705aModsFront
import Derived.Test.Qxb6604705aModsReadStr
namespace Go.Proofs.Qxb6604705aMods
open Go.ChangeShapes Go.WideShapes Go.ChangeAt Go.RowKit

theorem drop_next {bs l r : List UInt8} {p : Nat} (h : bs.drop p = l ++ r) : bs.drop (p + l.length) = r := by
  rw [← List.drop_drop, h, List.drop_left]

theorem enc_drop (F : Value → List ByteArray) (z : Nat) (order : List (ByteArray × Value)) : (encBytes F z order).drop (1 + (Lib.uvarint z).length) = entsBytes F order :=
  drop_next (p := 1) (by simp [encBytes])

theorem ents_at (F : Value → List ByteArray) (order : List (ByteArray × Value)) (k : Nat) (h : k < order.length) :
    entsBytes F order = entsBytes F (order.take k) ++ (entBytes F order[k] ++ entsBytes F (order.drop (k + 1))) := by
  have e : order = order.take k ++ (order[k] :: order.drop (k + 1)) := by rw [← List.drop_eq_getElem_cons h, List.take_append_drop]
  have e2 := congrArg (entsBytes F) e
  simp only [entsBytes, List.flatMap_append, List.flatMap_cons] at e2 ⊢
  exact e2

theorem dec_at (F : Value → List ByteArray) (z : Nat) (order : List (ByteArray × Value)) (k : Nat) (h : k < order.length) :
    (encBytes F z order).drop (1 + (Lib.uvarint z).length + (entsBytes F (order.take k)).length) = strBytes order[k].1 ++ (Lib.uvarint (F order[k].2).length ++ (strsBytes (F order[k].2) ++ entsBytes F (order.drop (k + 1)))) := by
  rw [drop_next (by rw [enc_drop, ents_at F order k h])]
  simp [entBytes]

theorem strs_at (ss : List ByteArray) (t : Nat) (h : t < ss.length) : strsBytes ss = strsBytes (ss.take t) ++ (strBytes (nth ss t) ++ strsBytes (ss.drop (t + 1))) := by
  rw [nth_eq h]
  have e : ss = ss.take t ++ (ss[t] :: ss.drop (t + 1)) := by rw [← List.drop_eq_getElem_cons h, List.take_append_drop]
  have e2 := congrArg strsBytes e
  simp only [strsBytes, List.flatMap_append, List.flatMap_cons] at e2 ⊢
  exact e2

theorem str_at {bs R : List UInt8} {p : Nat} {ss : List ByteArray} (hd : bs.drop p = strsBytes ss ++ R) (t : Nat) (h : t < ss.length) :
    bs.drop (p + (strsBytes (ss.take t)).length) = strBytes (nth ss t) ++ (strsBytes (ss.drop (t + 1)) ++ R) := by
  refine drop_next ?_
  rw [hd, strs_at ss t h, List.append_assoc, List.append_assoc]

theorem ents_succ (F : Value → List ByteArray) (order : List (ByteArray × Value)) (k : Nat) (h : k < order.length) :
    (entsBytes F (order.take (k + 1))).length = (entsBytes F (order.take k)).length + ((strBytes order[k].1).length + ((Lib.uvarint (F order[k].2).length).length + (strsBytes (F order[k].2)).length)) := by
  rw [List.take_succ_eq_append_getElem h, entsBytes_snoc, List.length_append, entBytes, List.length_append, List.length_append]

theorem ents_take_le (F : Value → List ByteArray) (order : List (ByteArray × Value)) (k : Nat) : (entsBytes F (order.take k)).length ≤ (entsBytes F order).length := by
  have e2 := congrArg (fun l => (entsBytes F l).length) (List.take_append_drop k order)
  simp only [entsBytes, List.flatMap_append, List.length_append] at e2 ⊢
  omega

/-- Among the first k names. -/
def seenO (order : List (ByteArray × Value)) (k : Nat) (t : ByteArray) : Bool := (order.take k).any fun p => decide (p.1.data.toList = t.data.toList)

theorem seenO_succ (order : List (ByteArray × Value)) (k : Nat) (h : k < order.length) (t : ByteArray) : seenO order (k + 1) t = (seenO order k t || decide (order[k].1.data.toList = t.data.toList)) := by
  unfold seenO
  rw [List.take_succ_eq_append_getElem h, List.any_append, List.any_cons, List.any_nil, Bool.or_false]

theorem seenO_new {order : List (ByteArray × Value)} (hp : order.Pairwise (fun p q => p.1 ≠ q.1)) (k : Nat) (h : k < order.length) : seenO order k order[k].1 = false := by
  unfold seenO
  rw [List.any_eq_false]
  intro p hpm
  simp only [decide_eq_true_eq]
  intro e
  obtain ⟨i, hi, rfl⟩ := List.getElem_of_mem hpm
  simp only [List.length_take] at hi
  rw [List.getElem_take] at e
  exact List.pairwise_iff_getElem.1 hp i k (by omega) h (by omega) (bytes_eq e)

structure DecLoop (seen : ByteArray → Bool) (k : Nat) (Dc : DataW Unit) (W wr : World) : Prop where
  owns : wr.ownsMap Trym.prog 9 (plainElem Trym.prog 4) W.heap.size k Dc
  cnt : Counted seen Dc
  bel : Below W.heap.size W wr

/-- The law's loop over the fields. -/
def DecRel (F : Value → List ByteArray) (order : List (ByteArray × Value)) (base : Nat) (W : World) (pos f : Value) (wr : World) : Prop :=
  ∃ (k : Nat) (Dc : DataW Unit), k ≤ order.length ∧ f = .int .u64 k ∧ pos = .int .i64 ((base + (entsBytes F (order.take k)).length : Nat) : Int) ∧ DecLoop (seenO order k) k Dc W wr
theorem DecRel.mk {F : Value → List ByteArray} {order : List (ByteArray × Value)} {base : Nat} {W : World} {pos f : Value} {wr : World} (k : Nat) (Dc : DataW Unit) (h1 : k ≤ order.length) (h2 : f = .int .u64 k) (h3 : pos = .int .i64 ((base + (entsBytes F (order.take k)).length : Nat) : Int)) (h4 : DecLoop (seenO order k) k Dc W wr) : DecRel F order base W pos f wr := ⟨k, Dc, h1, h2, h3, h4⟩

/-- .. over one field's values. -/
def DecIn (ss : List ByteArray) (pre : Nat) (seen : ByteArray → Bool) (k : Nat) (Dc : DataW Unit) (W : World) (pos i : Value) (wr : World) : Prop :=
  ∃ t : Nat, t ≤ ss.length ∧ i = .int .i64 t ∧ pos = .int .i64 ((pre + (strsBytes (ss.take t)).length : Nat) : Int) ∧ DecLoop seen k Dc W wr
theorem DecIn.mk {ss : List ByteArray} {pre : Nat} {seen : ByteArray → Bool} {k : Nat} {Dc : DataW Unit} {W : World} {pos i : Value} {wr : World} (t : Nat) (h1 : t ≤ ss.length) (h2 : i = .int .i64 t) (h3 : pos = .int .i64 ((pre + (strsBytes (ss.take t)).length : Nat) : Int)) (h4 : DecLoop seen k Dc W wr) : DecIn ss pre seen k Dc W pos i wr := ⟨t, h1, h2, h3, h4⟩

end Go.Proofs.Qxb6604705aMods
