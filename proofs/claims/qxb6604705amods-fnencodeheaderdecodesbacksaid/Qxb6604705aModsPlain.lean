/-
  SEAT b6604705aM: the encoding as plain lists; what a range over the map has laid down so far.
-/
import Derived.Test.Qxb6604705aModsBuild
namespace Go.Proofs.Qxb6604705aMods
open Go.ChangeShapes Go.WideShapes Go.ChangeAt Go.RowKit

def nth (ss : List ByteArray) (i : Nat) : ByteArray := ss.getD i ByteArray.empty
theorem nth_eq {ss : List ByteArray} {i : Nat} (h : i < ss.length) : nth ss i = ss[i] := by simp [nth, h]

/-- The strings, one behind the other. -/
def strsBytes (ss : List ByteArray) : List UInt8 := ss.flatMap strBytes
/-- A field: its name, how many values, the values. -/
def entBytes (F : Value → List ByteArray) (p : ByteArray × Value) : List UInt8 := strBytes p.1 ++ (Lib.uvarint (F p.2).length ++ strsBytes (F p.2))
def entsBytes (F : Value → List ByteArray) (l : List (ByteArray × Value)) : List UInt8 := l.flatMap (entBytes F)

/-- So many bytes in all. -/
def total (ss : List ByteArray) : Nat := (ss.map ByteArray.size).foldr (· + ·) 0

/-- v is a slice of the strings ss, which are not too long. -/
def Good (w : World) (v : Value) (ss : List ByteArray) : Prop := Strs w v ss.length (nth ss) ∧ ss.length + total ss ≤ 1048576

theorem Good.below {w w' : World} {v : Value} {ss : List ByteArray} (h : Good w v ss) (hb : Below w.heap.size w w') : Good w' v ss := ⟨h.1.below hb, h.2⟩

theorem total_cons (s : ByteArray) (ss : List ByteArray) : total (s :: ss) = s.size + total ss := rfl

theorem size_le_total {ss : List ByteArray} {s : ByteArray} (h : s ∈ ss) : s.size ≤ total ss := by
  induction ss with
  | nil => cases h
  | cons t ts ih =>
    rw [total_cons]
    rcases List.mem_cons.1 h with rfl | h
    · omega
    · have := ih h; omega

theorem strBytes_le {s : ByteArray} (h : s.size ≤ 1048576) : (strBytes s).length ≤ 10 + s.size := by
  rw [strBytes_length]
  have := Lib.uvarint_length64 (x := s.size) (by omega)
  omega

theorem strsBytes_le : ∀ (ss : List ByteArray), total ss ≤ 1048576 → (strsBytes ss).length ≤ 10 * ss.length + total ss
  | [], _ => by simp [strsBytes, total]
  | s :: ss, h => by
    rw [total_cons] at h ⊢
    have ih := strsBytes_le ss (by omega)
    have h1 := strBytes_le (s := s) (by omega)
    simp only [strsBytes, List.flatMap_cons, List.length_append, List.length_cons] at ih ⊢
    omega

theorem strsBytes_snoc (ss : List ByteArray) (t : Nat) (h : t < ss.length) : strsBytes (ss.take (t + 1)) = strsBytes (ss.take t) ++ strBytes (nth ss t) := by
  rw [nth_eq h, List.take_succ_eq_append_getElem h]
  simp only [strsBytes, List.flatMap_append, List.flatMap_cons, List.flatMap_nil, List.append_nil]

theorem total_take_le (ss : List ByteArray) (t : Nat) : total (ss.take t) ≤ total ss := by
  induction ss generalizing t with
  | nil => simp
  | cons s ss ih =>
    cases t with
    | zero => simp [total]
    | succ t => rw [List.take_succ_cons, total_cons, total_cons]; have := ih t; omega

theorem entBytes_le {F : Value → List ByteArray} {p : ByteArray × Value} (h1 : p.1.size ≤ 1048576) (h2 : (F p.2).length + total (F p.2) ≤ 1048576) : (entBytes F p).length ≤ 14000000 := by
  have a := strBytes_le h1
  have b := Lib.uvarint_length64 (x := (F p.2).length) (by omega)
  have c := strsBytes_le (F p.2) (by omega)
  simp only [entBytes, List.length_append]
  omega

theorem entsBytes_le {F : Value → List ByteArray} : ∀ (l : List (ByteArray × Value)), (∀ p ∈ l, p.1.size ≤ 1048576 ∧ (F p.2).length + total (F p.2) ≤ 1048576) → (entsBytes F l).length ≤ 14000000 * l.length
  | [], _ => by simp [entsBytes]
  | p :: l, h => by
    have ih := entsBytes_le l (fun q hq => h q (List.mem_cons_of_mem _ hq))
    have hp := entBytes_le (F := F) (h p (List.mem_cons_self)).1 (h p (List.mem_cons_self)).2
    simp only [entsBytes, List.flatMap_cons, List.length_append, List.length_cons] at ih ⊢
    omega

theorem entsBytes_snoc (F : Value → List ByteArray) (l : List (ByteArray × Value)) (p : ByteArray × Value) : entsBytes F (l ++ [p]) = entsBytes F l ++ entBytes F p := by
  simp [entsBytes]

/-- The range over D has laid down 'done'; 'left' is still to come. -/
structure Enc (D : DataW Value) (left : Lit → Bool) (cnt : Nat) (done : List (ByteArray × Value)) : Prop where
  apart : done.Pairwise (fun p q => p.1 ≠ q.1)
  in_ : ∀ p ∈ done, left (keyLit p.1) = false ∧ Maps.has D (keyLit p.1) = true ∧ D.atKey (keyLit p.1) .nil = .held p.2
  out : ∀ kl, Maps.has D kl = true → left kl = false → ∃ p ∈ done, kl = keyLit p.1
  count : cnt + done.length ≤ Maps.size D

theorem Enc.start (D : DataW Value) : Enc D (Maps.has D) (Maps.size D) [] :=
  ⟨List.Pairwise.nil, fun _ h => (by cases h), fun kl h1 h2 => (by rw [h1] at h2; cases h2), by simp⟩

theorem Enc.step {D : DataW Value} {left : Lit → Bool} {cnt cnt' : Nat} {done : List (ByteArray × Value)} (h : Enc D left cnt done) {x : ByteArray} {v : Value} (hl : left (keyLit x) = true) (hat : ∀ zd, D.atKey (keyLit x) zd = .held v) (hc : cnt' < cnt) :
    Enc D (fun z => left z && !z.sameKey (keyLit x)) cnt' (done ++ [(x, v)]) := by
  have hhas : Maps.has D (keyLit x) = true := Maps.has_true_of_atKey hat
  have hself : (keyLit x).sameKey (keyLit x) = true := WideAt.sameKey_self (isKey x)
  refine ⟨?_, fun p hp => ?_, fun kl h1 h2 => ?_, ?_⟩
  · rw [List.pairwise_append]
    refine ⟨h.apart, List.pairwise_singleton _ _, fun p hp q hq => ?_⟩
    rw [List.mem_singleton.1 hq]
    intro e
    have := (h.in_ p hp).1
    rw [e] at this
    change left (keyLit x) = false at this
    rw [hl] at this
    cases this
  · rcases List.mem_append.1 hp with hp | hp
    · obtain ⟨a, b, c⟩ := h.in_ p hp
      exact ⟨by simp [a], b, c⟩
    · rw [List.mem_singleton.1 hp]
      exact ⟨by simp [hself], hhas, hat _⟩
  · by_cases e : left kl = false
    · obtain ⟨p, hp, hk⟩ := h.out kl h1 e
      exact ⟨p, List.mem_append_left _ hp, hk⟩
    · have e' : left kl = true := by simpa using e
      simp only [e', Bool.true_and, Bool.not_eq_false'] at h2
      exact ⟨(x, v), List.mem_append_right _ (List.mem_singleton.2 rfl), WideAt.sameKey_eq h2⟩
  · have := h.count
    simp only [List.length_append, List.length_singleton]
    omega

/-- No more different ones than the list has that holds them all. -/
theorem length_le_of_subset {α : Type} [DecidableEq α] : ∀ (l k : List α), l.Pairwise (· ≠ ·) → (∀ x ∈ l, x ∈ k) → l.length ≤ k.length
  | [], _, _, _ => Nat.zero_le _
  | a :: l, k, hp, hs => by
    obtain ⟨h1, h2⟩ := List.pairwise_cons.1 hp
    have ha := hs a (List.mem_cons_self)
    have ih := length_le_of_subset l (k.erase a) h2 (fun x hx => (List.mem_erase_of_ne (fun e => h1 x hx e.symm)).2 (hs x (List.mem_cons_of_mem _ hx)))
    rw [List.length_erase_of_mem ha] at ih
    have : 0 < k.length := List.length_pos_of_mem ha
    simp only [List.length_cons]
    omega

/-- At the end every entry has been laid down, each once. -/
theorem Enc.done_all {D : DataW Value} {left : Lit → Bool} {cnt : Nat} {done : List (ByteArray × Value)} (h : Enc D left cnt done) (hD : ∃ es, D = .map es ∧ es.Pairwise (fun p q => p.1 ≠ q.1) ∧ ∀ p ∈ es, WideAt.IsKeyLit p.1) (hl : ∀ kl, left kl = false) : done.length = Maps.size D := by
  classical
  obtain ⟨es, rfl, hp, hk⟩ := hD
  have hle := h.count
  have hge : es.length ≤ done.length := by
    have e1 : (es.map (·.1)).Pairwise (· ≠ ·) := List.pairwise_map.2 hp
    have := length_le_of_subset (es.map (·.1)) (done.map fun q => keyLit q.1) e1 (fun x hx => by
      obtain ⟨p, hpe, rfl⟩ := List.mem_map.1 hx
      obtain ⟨q, hq, e⟩ := h.out p.1 (List.any_eq_true.2 ⟨p, hpe, WideAt.sameKey_self (hk p hpe)⟩) (hl _)
      exact List.mem_map.2 ⟨q, hq, e.symm⟩)
    simpa using this
  have e2 : Maps.size (.map es : DataW Value) = es.length := rfl
  omega

end Go.Proofs.Qxb6604705aMods
