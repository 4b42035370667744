/-
  SEAT b6604705aM: what both laws stand on once the header is encoded.
-/
import Derived.Test.Qxb6604705aModsCount
import Derived.Test.Qxb6604705aModsTooBig
namespace Go.Proofs.Qxb6604705aMods
open Go.ChangeShapes Go.WideShapes Go.ChangeAt Go.RowKit

structure Front (n : Nat) (S : Nat → ByteArray) (w : World) (vn : Value) (bm : Nat) (D : DataW Value) (F : Value → List ByteArray) (vb : Value) (order : List (ByteArray × Value)) (W : World) : Prop where
  strs : Strs W vn n S
  map : W.ownsMap Trym.prog 9 tokElem bm n D
  sizes : n ≤ 1048576
  name : ∀ i, i < n → (S i).size ≤ 1048576
  has : ∀ i, i < n → Maps.has D (keyLit (S i)) = true
  keys : ∀ p ∈ order, ∃ i, i < n ∧ S i = p.1
  apart : order.Pairwise (fun p q => p.1 ≠ q.1)
  in_ : ∀ p ∈ order, Maps.has D (keyLit p.1) = true ∧ D.atKey (keyLit p.1) .nil = .held p.2
  out : ∀ kl, Maps.has D kl = true → ∃ p ∈ order, kl = keyLit p.1
  count : order.length = Maps.size D
  good : ∀ p ∈ order, Good W p.2 (F p.2)
  bytes : Bs W vb (encBytes F (Maps.size D) order)
  len : (encBytes F (Maps.size D) order).length ≤ 14680064000011
  bel : Below w.heap.size w W

/-- The elements of the built map are good slices. -/
theorem built_good {w : World} {n : Nat} {S : Nat → ByteArray} {m : Nat} {L : Nat → Nat} {V : Nat → Nat → ByteArray} {f : Nat → Value} {D : DataW Value} (hB : Built S (valAt m f) n D) (hf : ∀ i, i < m → Strs w (f i) (L i) (V i)) (B : Bounds n S m L V) :
    ∀ kl v, Maps.has D kl = true → D.atKey kl .nil = .held v → ∃ ss, Good w v ss := by
  intro kl v hk ha
  obtain ⟨i, _, _, h2⟩ := hB.at_ kl hk
  rw [h2] at ha
  cases ha
  by_cases hi : i < m
  · rw [valAt, if_pos hi]
    exact good_of_strs (hf i hi) (B.val i hi)
  · rw [valAt, if_neg hi]
    exact good_of_strs (Strs.nil w (fun _ => ByteArray.empty)) (by simp [sumTo])

theorem front_mk {w w4 W : World} {n : Nat} {S : Nat → ByteArray} {m : Nat} {L : Nat → Nat} {V : Nat → Nat → ByteArray} {f : Nat → Value} {D : DataW Value} {F : Value → List ByteArray} {vn vb : Value} {bm : Nat} {order : List (ByteArray × Value)}
    (hs : Strs w4 vn n S) (hm : w4.ownsMap Trym.prog 9 tokElem bm n D) (B : Bounds n S m L V) (hB : Built S (valAt m f) n D) (hg : ∀ kl v, Maps.has D kl = true → D.atKey kl .nil = .held v → Good w4 v (F v)) (hE : Encoded D F w4 vb W order) (hb : Below w.heap.size w w4) :
    Front n S w vn bm D F vb order W := by
  have hsz := hm.size_le
  have hbn := B.names
  have hkeys : ∀ p ∈ order, ∃ i, i < n ∧ S i = p.1 := fun p hp => by
    obtain ⟨i, hi, hk, _⟩ := hB.at_ _ (hE.in_ p hp).1
    exact ⟨i, hi, (keyLit_inj hk).symm⟩
  have hgood : ∀ p ∈ order, Good w4 p.2 (F p.2) := fun p hp => hg _ _ (hE.in_ p hp).1 (hE.in_ p hp).2
  have hlen : (encBytes F (Maps.size D) order).length ≤ 14680064000011 := encBytes_le (by omega) (by rw [hE.count]; omega) (fun p hp => by
    obtain ⟨i, hi, e⟩ := hkeys p hp
    exact ⟨by rw [← e]; exact B.name i hi, (hgood p hp).2⟩)
  exact ⟨hs.below hE.below, ownsMap_below hm hE.below, B.names, B.name, hB.has, hkeys, hE.apart, hE.in_, hE.out, hE.count, fun p hp => (hgood p hp).below hE.below,
    Bs.of_row hE.bytes rfl (by simp [encBytes]), hlen, hb.trans (hE.below.mono hb.size)⟩

theorem key_size {n : Nat} {S : Nat → ByteArray} {m : Nat} {L : Nat → Nat} {V : Nat → Nat → ByteArray} {val : Nat → Value} {D : DataW Value} (hB : Built S val n D) (B : Bounds n S m L V) : ∀ s, Maps.has D (keyLit s) = true → s.size ≤ 1048576 := fun s hs => by
  obtain ⟨i, hi, hk, _⟩ := hB.at_ _ hs
  rw [keyLit_inj hk]; exact B.name i hi

/-! ### A set of names that the law itself makes -/
structure Counted (seen : ByteArray → Bool) (Dc : DataW Unit) : Prop where
  has : ∀ s, Maps.has Dc (keyLit s) = seen s
  val : ∀ kl, Maps.has Dc kl = true → ∀ z, Dc.atKey kl z = .lit (.bool true)

theorem Counted.zero : Counted (fun _ => false) (.map []) := ⟨fun _ => rfl, fun _ h => by simp [Maps.has] at h⟩

theorem Counted.step {seen seen' : ByteArray → Bool} {Dc : DataW Unit} (h : Counted seen Dc) (hD : Maps.IsMap Dc) (s : ByteArray) (hs : ∀ t, seen' t = (seen t || decide (s.data.toList = t.data.toList))) : Counted seen' (Dc.put (keyLit s) (.lit (.bool true))) := by
  refine ⟨fun t => ?_, fun kl hk z => ?_⟩
  · rw [hs]
    by_cases e : s.data.toList = t.data.toList
    · rw [← bytes_eq e, Maps.has_put_same hD (isKey _)]; simp
    · have hne : keyLit t ≠ keyLit s := fun e2 => e (by rw [keyLit_inj e2])
      rw [Maps.has_put_other hne, h.has t]; simp [e]
  · by_cases e : kl = keyLit s
    · subst e; exact Maps.atKey_put_same hD (isKey _) _ _
    · rw [Maps.has_put_other e] at hk
      rw [Maps.atKey_put_other e]; exact h.val kl hk z

theorem zero4 (w : World) : (zeroValue 4).run Trym.prog w = .ok (.bool false) w := by kernel_rfl
theorem zero22 (w : World) : (zeroValue 22).run Trym.prog w = .ok (.slice none 0 0) w := by kernel_rfl

/-- 'counted[name]' (guarded or not). -/
theorem wpList_lookup_bool (w : World) {ops : Array Oper} {rest : List Oper} {o : Oper} {a : Act} {Q : Exit → Act → World → Prop} (hw : Region.wanted o (yielded ops a.tmps) = true) (m x : Operand) (hop : o.op = Op.lookup 34 m x false)
    (b n : Nat) (seen : ByteArray → Bool) (Dc : DataW Unit) (hm : a.eval m = .map (some b)) (hown : w.ownsMap Trym.prog 9 (plainElem Trym.prog 4) b n Dc) (hc : Counted seen Dc) (s : ByteArray) (hx : a.eval x = .string s) (hs : s.size ≤ 1048576)
    (hK : wpList Trym.prog ops Q rest (a.put o.dst (.bool (seen s))) w) : wpList Trym.prog ops Q (o :: rest) a w := by
  rw [wpList, if_pos hw]
  refine .inl ?_
  obtain ⟨v, ps, hrun, hv⟩ := hown.lookup law Trym.underlying34 (zero4 w) (plainElem_bool Trym.underlying4 false) (keyOf_str hs)
  have hvv : v = .bool (seen s) := by
    rw [← hc.has s]
    cases hh : Maps.has Dc (keyLit s) with
    | true =>
      rw [hc.val _ hh] at hv
      cases v <;> simp [plainElem, Trym.underlying4] at hv
      rw [hv.1]
    | false =>
      rw [Maps.atKey_of_not_has hh] at hv
      cases v <;> simp [plainElem, Trym.underlying4] at hv
      rw [hv.1]
  subst hvv
  unfold Oper.wp
  simp [execOp, hop, hm, hx, hrun, Result.andThen]
  exact hK

/-- 'h[name]', the name being there. -/
theorem wpList_lookup_tok (w : World) {ops : Array Oper} {rest : List Oper} {o : Oper} {a : Act} {Q : Exit → Act → World → Prop} (hg : o.guard = none) (m x : Operand) (hop : o.op = Op.lookup 27 m x false)
    (b n : Nat) (D : DataW Value) (hm : a.eval m = .map (some b)) (hown : w.ownsMap Trym.prog 9 tokElem b n D) (s : ByteArray) (hx : a.eval x = .string s) (hs : s.size ≤ 1048576) (v : Value) (hh : Maps.has D (keyLit s) = true) (hat : D.atKey (keyLit s) .nil = .held v)
    (hK : wpList Trym.prog ops Q rest (a.put o.dst v) w) : wpList Trym.prog ops Q (o :: rest) a w := by
  refine wpList_plain hg fun K' hK' => ?_
  obtain ⟨v', ps, hrun, hv⟩ := hown.lookup law Trym.underlying27 (zero22 w) (tokElem_slice none 0 0) (keyOf_str hs)
  rw [atKey_of_has hh _ .nil, hat] at hv
  obtain ⟨_, _, _, _, e⟩ := tokElem_inv hv
  simp at e
  obtain ⟨rfl, _⟩ := e
  unfold Oper.wp
  simp [execOp, hop, hm, hx, hrun, Result.andThen]
  exact hK' _ _ hK

/-- 'v, ok := h[name]', the name being there. -/
theorem wpList_lookup_tok_ok (w : World) {ops : Array Oper} {rest : List Oper} {o : Oper} {a : Act} {Q : Exit → Act → World → Prop} (hg : o.guard = none) (m x : Operand) (hop : o.op = Op.lookup 27 m x true)
    (b n : Nat) (D : DataW Value) (hm : a.eval m = .map (some b)) (hown : w.ownsMap Trym.prog 9 tokElem b n D) (s : ByteArray) (hx : a.eval x = .string s) (hs : s.size ≤ 1048576) (v : Value) (hh : Maps.has D (keyLit s) = true) (hat : D.atKey (keyLit s) .nil = .held v)
    (hK : wpList Trym.prog ops Q rest (a.put o.dst (.tuple #[v, .bool true])) w) : wpList Trym.prog ops Q (o :: rest) a w := by
  refine wpList_plain hg fun K' hK' => ?_
  obtain ⟨v', ps, hrun, hv⟩ := hown.look_ok law Trym.underlying27 (zero22 w) (tokElem_slice none 0 0) (keyOf_str hs)
  rw [atKey_of_has hh _ .nil, hat] at hv
  obtain ⟨_, _, _, _, e⟩ := tokElem_inv hv
  simp at e
  obtain ⟨rfl, _⟩ := e
  rw [hh] at hrun
  unfold Oper.wp
  simp [execOp, hop, hm, hx, hrun, Result.andThen]
  exact hK' _ _ hK

/-- 'len(h)' (guarded or not). -/
theorem wpList_len_w (w : World) {ops : Array Oper} {rest : List Oper} {o : Oper} {a : Act} {Q : Exit → Act → World → Prop} (hw : Region.wanted o (yielded ops a.tmps) = true) (m : Operand) (hop : o.op = Op.call { callee := Callee.builtin Builtin.len, args := #[m], argTypes := #[27] })
    (b n : Nat) (D : DataW Value) (hm : a.eval m = .map (some b)) (hown : w.ownsMap Trym.prog 9 tokElem b n D)
    (hK : wpList Trym.prog ops Q rest (a.put o.dst (.int .i64 (Maps.size D))) w) : wpList Trym.prog ops Q (o :: rest) a w := by
  rw [wpList, if_pos hw]
  refine .inl ?_
  unfold Oper.wp
  simp [execOp, hop, resolve, invoke, builtin, hm, hown.len Trym.underlying27 o.type, Result.andThen]
  exact hK

end Go.Proofs.Qxb6604705aMods
