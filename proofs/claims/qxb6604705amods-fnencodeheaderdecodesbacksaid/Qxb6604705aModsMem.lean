/-
  SEAT b6604705aM: words on memory (a row of strings, a row of bytes, what has grown), and the walks of AppendUvarint and appendString.
-/
import Derived.Test.Qxb6604705aModsRows
import Derived.WalkKit
import Derived.ProofKit
import Derived.WalkLawsBesides
import Derived.WalkSpells
import Derived.Below
import Derived.Lib.VarintMem
import Derived.Lib.AppendStr
import Derived.Lib.UnsafeStr
import Derived.OwnWalk
namespace Go.Proofs.Qxb6604705aMods
open Go.ChangeShapes Go.WideShapes Go.ChangeAt Go.RowKit

theorem hide {p : Prop} (h : p) : Hid p := h
theorem unhide {p : Prop} (h : Hid p) : p := h

theorem Trym.info5 : (Trym.prog.info? 5).map (fun i => (i.zero, i.size, i.bytes)) = some (some (.int .u8 0), 1, 1) := by kernel_rfl
theorem Trym.info9 : (Trym.prog.info? 9).map (fun i => (i.zero, i.size, i.bytes)) = some (some (.string ByteArray.empty), 1, 16) := by kernel_rfl
theorem Trym.info22 : (Trym.prog.info? 22).map (fun i => (i.zero, i.size, i.bytes)) = some (some (.slice none 0 0), 1, 24) := by kernel_rfl

/-! ### What has grown -/
def isCells : Obj → Bool
  | .cells .. => true
  | _ => false

/-- Below B nothing has turned; and no block that is no row of cells has turned. -/
structure Grows (B : Nat) (w w' : World) : Prop where
  below : Below B w w'
  other : ∀ (k : Nat) (o : Obj), w.heap[k]? = some o → isCells o = false → w'.heap[k]? = some o

theorem Grows.refl (B : Nat) (w : World) : Grows B w w := ⟨Below.refl _ _, fun _ _ h _ => h⟩
theorem Grows.trans {B : Nat} {a b c : World} (h : Grows B a b) (k : Grows B b c) : Grows B a c :=
  ⟨h.below.trans k.below, fun i o hi ho => k.other i o (h.other i o hi ho) ho⟩
theorem Grows.alloc {B : Nat} {a w : World} (h : Grows B a w) (hB : B ≤ w.heap.size) (o : Obj) : Grows B a (w.alloc o) :=
  ⟨h.below.alloc hB o, fun i x hi hx => by
    have h1 := h.other i x hi hx
    have hlt := (Array.getElem?_eq_some_iff.1 h1).1
    rw [Below.heap_alloc w o i hlt]; exact h1⟩
theorem Grows.grown {B : Nat} {a w w' : World} {v : Value} {e : TypeId} {s n : Nat} {xs : List Value} (h : Grows B a w) (hown : w.ownsRow B e s v n xs) (hg : w.grownBy w' v.ownBlock) (hB : B ≤ w.heap.size) : Grows B a w' :=
  ⟨h.below.grown hg hB (fun k hk => (hown.lt k hk).1), fun i x hi hx => by
    have h1 := h.other i x hi hx
    have hlt := (Array.getElem?_eq_some_iff.1 h1).1
    rw [hg.block i hlt (fun e1 => ?_)]
    · exact h1
    · rcases hown.2 with ⟨rfl, _⟩ | ⟨g, cap, cur, rfl, _, hc, _⟩
      · simp [Value.ownBlock] at e1
      · simp [Value.ownBlock] at e1
        subst e1
        rw [hc] at h1
        cases h1
        simp [isCells] at hx⟩
theorem Grows.size {B : Nat} {w w' : World} (h : Grows B w w') : w.heap.size ≤ w'.heap.size := h.below.size

set_option maxHeartbeats 2000000 in
set_option maxRecDepth 100000 in
/-- encoding/binary.AppendUvarint onto a row of the call's own. -/
theorem appendUvarint_any (B n x : Nat) (hx : x < 18446744073709551616) (sv : Value) (xs : List Value) (w : World) (hown : w.ownsRow B 5 1 sv n xs) (hBw : B ≤ w.heap.size) (hlim : n + 10 ≤ 140737488355328) :
    Calls Trym.prog 31 #[sv, .int .u64 x] w fun e w' => ∃ v', e = .returned v' ∧ w'.ownsRow B 5 1 v' (n + (Lib.uvarint x).length) (xs ++ Lib.byteCells (Lib.uvarint x)) ∧ Grows B w w' := by
  obtain ⟨i0, hi, hz0, hz1, hz2⟩ := info_parts Trym.info5
  have hlen := Lib.uvarint_length64 hx
  go_enter Trym.func31, Trym.ntmps31
  go_wp2
  go_loopw [0, 1] (fun vb vx wr => ∃ (y : Nat) (pre : List UInt8), vx = .int .u64 y ∧ y ≤ x ∧ Lib.uvarint x = pre ++ Lib.uvarint y ∧ wr.ownsRow B 5 1 vb (n + pre.length) (xs ++ Lib.byteCells pre) ∧ Grows B w wr)
    (fun _ vx _ => (intOf vx).toNat)
  case atStart => exact ⟨x, [], rfl, Nat.le_refl _, rfl, by simpa [Lib.byteCells] using hown, Grows.refl _ _⟩
  case round =>
    obtain ⟨y, pre, rfl, hy, hsplit, hown1, hnx⟩ := hrel
    have hpl : pre.length + (Lib.uvarint y).length ≤ 10 := by
      have h2 := congrArg List.length hsplit
      rw [List.length_append] at h2
      omega
    have hyp := Lib.uvarint_pos y
    by_cases h128 : 128 ≤ y
    · have hor : bits .or .u8 ((y : Int) % 256) 128 = ((y % 128 + 128 : Nat) : Int) := by
        rw [Lib.u8_or128_any _ (by omega) (by omega)]
        omega
      go_wp2_with (at_builtin; refine wpList_append_own _ rfl _ _ 29 rfl B 5 i0 (.int .u8 0) 1 1 Trym.underlying29 hi hz0 hz1 hz2 rfl (by decide) _ _ _ rfl (hown1.alloc _) ⟨wr.heap.size, 0, none⟩ 1 1 [Value.int .u8 ((y % 128 + 128 : Nat) : Int)] rfl rfl ?c1 ?c2 ?c3 ?c4 ?c5 ?_)
      case c1 =>
        intro j u hj
        match j, hj with
        | 0, hj => simp at hj; subst hj; simp [Addr.add]
      case c2 => intro u hu; simp at hu; subst hu; rfl
      case c3 => unfold maxLen; omega
      case c4 => omega
      case c5 => have := hnx.size; simp; omega
      intro v' w1 hown' hgrow _
      have hnx1 : Grows B w w1 := (hnx.alloc (by have := hnx.size; omega) _).grown (hown1.alloc _) hgrow (by have := hnx.size; simp; omega)
      go_wp2
      go_roundw
      case rel =>
        refine ⟨y / 128, pre ++ [(y % 128 + 128).toUInt8], by go_num, by omega, by rw [hsplit, Lib.uvarint_big h128]; simp, ?_, hnx1⟩
        have ec : ((y % 128 + 128 : Nat) : Int) = (y : Int) % 128 + 128 := by omega
        rw [Lib.byteCells_snoc pre (by omega), List.length_append, List.length_singleton, ← Nat.add_assoc, ec]
        simpa using hown'
      case measure => simp [intOf]; omega
    · have hsm : Lib.uvarint y = [y.toUInt8] := Lib.uvarint_small (by omega)
      go_wp2_with (at_builtin; refine wpList_append_own _ rfl _ _ 29 rfl B 5 i0 (.int .u8 0) 1 1 Trym.underlying29 hi hz0 hz1 hz2 rfl (by decide) _ _ _ rfl (hown1.alloc _) ⟨wr.heap.size, 0, none⟩ 1 1 [Value.int .u8 (y : Int)] rfl rfl ?c1 ?c2 ?c3 ?c4 ?c5 ?_)
      case c1 =>
        intro j u hj
        match j, hj with
        | 0, hj => simp at hj; subst hj; simp [Addr.add]
      case c2 => intro u hu; simp at hu; subst hu; rfl
      case c3 => unfold maxLen; omega
      case c4 => omega
      case c5 => have := hnx.size; simp; omega
      intro v' w1 hown' hgrow _
      have hnx1 : Grows B w w1 := (hnx.alloc (by have := hnx.size; omega) _).grown (hown1.alloc _) hgrow (by have := hnx.size; simp; omega)
      go_wp2
      go_ret
      refine ⟨v', rfl, ?_, hnx1⟩
      rw [hsplit, hsm, Lib.byteCells_snoc pre (by omega), List.length_append, List.length_singleton, ← Nat.add_assoc]
      simpa using hown'

/-- A string behind its length. -/
def strBytes (s : ByteArray) : List UInt8 := Lib.uvarint s.size ++ s.data.toList

theorem size_toList (s : ByteArray) : s.data.toList.length = s.size := by rw [Array.length_toList]; rfl

theorem strBytes_length (s : ByteArray) : (strBytes s).length = (Lib.uvarint s.size).length + s.size := by
  unfold strBytes; rw [List.length_append, size_toList]

set_option maxHeartbeats 800000 in
/-- appendString onto a row of the call's own. -/
theorem appendString_any (B n : Nat) (s : ByteArray) (hs : s.size ≤ 1048576) (sv : Value) (xs : List Value) (w : World) (hown : w.ownsRow B 5 1 sv n xs) (hBw : B ≤ w.heap.size) (hlim : n + 2000000 ≤ 140737488355328) :
    Calls Trym.prog 32 #[sv, .string s] w fun e w' => ∃ v', e = .returned v' ∧ w'.ownsRow B 5 1 v' (n + (strBytes s).length) (xs ++ Lib.byteCells (strBytes s)) ∧ Grows B w w' := by
  obtain ⟨i0, hi, hz0, hz1, hz2⟩ := info_parts Trym.info5
  have hul := Lib.uvarint_length64 (x := s.size) (by omega)
  go_enter Trym.func32, Trym.ntmps32
  go_wp2_with fail
  refine (appendUvarint_any B n s.size (by omega) sv xs _ hown hBw (by omega)).mono ?_
  rintro e w1 ⟨v1, rfl, hown1, hg1⟩
  go_wp2_with (at_builtin; refine Lib.wpList_append_own_string _ rfl _ _ 29 9 rfl B 5 i0 Trym.underlying29 Trym.underlying9 hi hz0 hz1 hz2 _ _ _ rfl hown1 s rfl ?c1 ?c2 ?c3 ?_)
  case c1 => unfold maxLen; omega
  case c2 => omega
  case c3 => have := hg1.size; omega
  intro v' w2 hown' hgrow _
  have hg2 := hg1.grown hown1 hgrow (by have := hg1.size; omega)
  go_wp2
  go_ret
  refine ⟨v', rfl, ?_, hg2⟩
  rw [strBytes_length, ← Nat.add_assoc]
  unfold strBytes
  rw [Lib.byteCells_append]
  simpa [Lib.strCells_eq] using hown'

end Go.Proofs.Qxb6604705aMods
