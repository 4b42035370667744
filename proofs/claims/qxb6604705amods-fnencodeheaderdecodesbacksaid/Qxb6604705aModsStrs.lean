/-
  SEAT b6604705aM: rows of strings and rows of rows of strings; the walks of zzBytes_.. (both), ehTooBig, cloneStrings, cloneVals.
-/
import Derived.Test.Qxb6604705aModsMem
import Derived.Deep.OwnRows
namespace Go.Proofs.Qxb6604705aMods
open Go.ChangeShapes Go.WideShapes Go.ChangeAt Go.RowKit

/-- v is a slice of the n strings S. -/
def Strs (w : World) (v : Value) (n : Nat) (S : Nat → ByteArray) : Prop :=
  ∃ (a : Option Addr) (b o cap : Nat), v = .slice a n cap ∧ (0 < n → a = some ⟨b, o, none⟩) ∧ ∀ i, i < n → w.cell? ⟨b, o + i, none⟩ = some (.string (S i))

theorem Strs.below {w w' : World} {v : Value} {n : Nat} {S : Nat → ByteArray} (h : Strs w v n S) (hb : Below w.heap.size w w') : Strs w' v n S := by
  obtain ⟨a, b, o, cap, hv, ha, hc⟩ := h
  exact ⟨a, b, o, cap, hv, ha, fun i hi => cell_later hb (hc i hi)⟩

theorem Strs.nil (w : World) (S : Nat → ByteArray) : Strs w (.slice none 0 0) 0 S := ⟨none, 0, 0, 0, rfl, fun h => absurd h (Nat.lt_irrefl _), fun _ hi => absurd hi (Nat.not_lt_zero _)⟩

/-- v is a slice of m slices of strings. -/
def Vals (w : World) (v : Value) (m : Nat) (L : Nat → Nat) (V : Nat → Nat → ByteArray) : Prop :=
  ∃ (a : Option Addr) (b o cap : Nat) (f : Nat → Value), v = .slice a m cap ∧ (0 < m → a = some ⟨b, o, none⟩) ∧ ∀ i, i < m → w.cell? ⟨b, o + i, none⟩ = some (f i) ∧ Strs w (f i) (L i) (V i)

theorem Vals.below {w w' : World} {v : Value} {m : Nat} {L : Nat → Nat} {V : Nat → Nat → ByteArray} (h : Vals w v m L V) (hb : Below w.heap.size w w') : Vals w' v m L V := by
  obtain ⟨a, b, o, cap, f, hv, ha, hc⟩ := h
  exact ⟨a, b, o, cap, f, hv, ha, fun i hi => ⟨cell_later hb (hc i hi).1, (hc i hi).2.below hb⟩⟩

/-- The sum of the first k. -/
def sumTo (f : Nat → Nat) : Nat → Nat
  | 0 => 0
  | k + 1 => sumTo f k + f k

/-- What the law's guard grants. -/
structure Bounds (n : Nat) (S : Nat → ByteArray) (m : Nat) (L : Nat → Nat) (V : Nat → Nat → ByteArray) : Prop where
  names : n ≤ 1048576
  name : ∀ i, i < n → (S i).size ≤ 1048576
  vals : m ≤ 1048576
  val : ∀ i, i < m → L i + sumTo (fun j => (V i j).size) (L i) ≤ 1048576

set_option maxHeartbeats 1600000 in
theorem cloneStrings_any (v : Value) (n : Nat) (S : Nat → ByteArray) (w : World) (hv : Strs w v n S) (hn : n ≤ 1048576) :
    Calls Trym.prog 9 #[v] w fun e w' => ∃ v', e = .returned v' ∧ Strs w' v' n S ∧ Below w.heap.size w w' := by
  obtain ⟨a, b, o, cap, rfl, ha, hc⟩ := hv
  have q22 : ∀ (w : World) (a : Option Addr) (n c n' c' : Nat), (binOp .eql 22 (.slice a n c) (.slice none n' c')).run Trym.prog w = .ok (.bool a.isNone) w := fun w a n c n' c' => Lib.run_eql_slice_nil w _ _ a n c n' c' Trym.underlying22
  cases a with
  | none =>
    have h0 : n = 0 := by
      by_cases h : 0 < n
      · cases ha h
      · omega
    subst h0
    go_enter Trym.func9, Trym.ntmps9
    go_wp2
    go_ret
    exact ⟨_, rfl, Strs.nil _ _, Below.refl _ _⟩
  | some x =>
    have hmk := run_make_row' (P := Trym.prog) 22 9 (.string ByteArray.empty) 16 Trym.underlying22 Trym.info9 rfl .i64 .i64 n (by omega) (by omega)
    go_enter Trym.func9, Trym.ntmps9
    go_wp2
    clear hmk q22
    go_loopw [4] (fun i wr => ∃ k : Nat, k ≤ n ∧ i = .int .i64 k ∧ wr.rowIs w.heap.size 9 n (fun j => if j < k then .string (S j) else .string ByteArray.empty) ∧ Below w.heap.size w wr) (fun i _ => n - (intOf i).toNat)
    case atStart => exact ⟨0, Nat.zero_le _, rfl, (World.rowIs_made w (.string ByteArray.empty) n 9).congr (fun i _ => by simp), (Below.refl _ _).alloc (Nat.le_refl _) _⟩
    case round =>
      obtain ⟨k, hk, rfl, hrow, hbel⟩ := hrel
      by_cases hlt : k < n
      · obtain rfl := Option.some.inj (ha (by omega))
        have hcell : wr.cell? ⟨b, o + k, none⟩ = some (.string (S k)) := (hbel.cell (p := ⟨b, o + k, none⟩) (World.block_lt_of_cell? _ _ (hc k hlt))).trans (hc k hlt)
        have hst : wr.cell? ⟨w.heap.size, k, none⟩ = some (.string ByteArray.empty) := by simpa using hrow.cell hlt
        have hfr : wr.frozen? ⟨w.heap.size, k, none⟩ = false := hrow.frozen k
        have hltz : (k : Int) < (n : Int) := by omega
        clear hc ha
        go_wp2
        go_roundw
        case rel => exact ⟨k + 1, by omega, by go_num, (hrow.set k (.string (S k))).congr (fun i hi => by
            by_cases e : i = k
            · subst e; simp
            · have : (i < k + 1) = (i < k) := by simp; omega
              simp [e, this]), hbel.setCell (p := ⟨w.heap.size, k, none⟩) (Nat.le_refl _) _⟩
        case measure => simp [intOf]; omega
      · clear hc ha
        go_wp2
        go_ret
        exact ⟨_, rfl, ⟨_, w.heap.size, 0, n, rfl, fun _ => rfl, fun i hi => by
          have := hrow.cell hi
          rw [if_pos (by omega)] at this
          rw [Nat.zero_add]; exact this⟩, hbel⟩

set_option maxHeartbeats 1600000 in
theorem cloneVals_any (v : Value) (m : Nat) (L : Nat → Nat) (V : Nat → Nat → ByteArray) (w : World) (hv : Vals w v m L V) (hm : m ≤ 1048576) (hL : ∀ i, i < m → L i ≤ 1048576) :
    Calls Trym.prog 10 #[v] w fun e w' => ∃ v', e = .returned v' ∧ Vals w' v' m L V ∧ Below w.heap.size w w' := by
  obtain ⟨a, b, o, cap, f, rfl, ha, hc⟩ := hv
  have q23 : ∀ (w : World) (a : Option Addr) (n c n' c' : Nat), (binOp .eql 23 (.slice a n c) (.slice none n' c')).run Trym.prog w = .ok (.bool a.isNone) w := fun w a n c n' c' => Lib.run_eql_slice_nil w _ _ a n c n' c' Trym.underlying23
  cases a with
  | none =>
    have h0 : m = 0 := by
      by_cases h : 0 < m
      · cases ha h
      · omega
    subst h0
    go_enter Trym.func10, Trym.ntmps10
    go_wp2
    go_ret
    exact ⟨_, rfl, ⟨none, 0, 0, 0, fun _ => .slice none 0 0, rfl, fun h => absurd h (Nat.lt_irrefl _), fun i hi => absurd hi (Nat.not_lt_zero _)⟩, Below.refl _ _⟩
  | some x =>
    have hmk := run_make_row' (P := Trym.prog) 23 22 (.slice none 0 0) 24 Trym.underlying23 Trym.info22 rfl .i64 .i64 m (by omega) (by omega)
    go_enter Trym.func10, Trym.ntmps10
    go_wp2
    clear hmk q23
    go_loopw [4] (fun i wr => ∃ (k : Nat) (g : Nat → Value), k ≤ m ∧ i = .int .i64 k ∧ wr.rowIs w.heap.size 22 m (fun j => if j < k then g j else .slice none 0 0) ∧ (∀ j, j < k → Strs wr (g j) (L j) (V j)) ∧ Below w.heap.size w wr) (fun i _ => m - (intOf i).toNat)
    case atStart => exact ⟨0, fun _ => .slice none 0 0, Nat.zero_le _, rfl, (World.rowIs_made w (.slice none 0 0) m 22).congr (fun i _ => by simp), fun j hj => absurd hj (Nat.not_lt_zero _), (Below.refl _ _).alloc (Nat.le_refl _) _⟩
    case round =>
      obtain ⟨k, g, hk, rfl, hrow, hg, hbel⟩ := hrel
      by_cases hlt : k < m
      · obtain rfl := Option.some.inj (ha (by omega))
        have hsk := (hc k hlt).2.below hbel
        have hcell : wr.cell? ⟨b, o + k, none⟩ = some (f k) := (hbel.cell (p := ⟨b, o + k, none⟩) (World.block_lt_of_cell? _ _ (hc k hlt).1)).trans (hc k hlt).1
        have hltz : (k : Int) < (m : Int) := by omega
        have HR := hide hrow
        have HG := hide hg
        have HB := hide hbel
        have HS := hide hsk
        clear hc ha hrow hg hsk hbel
        have hLk := hL k hlt
        go_wp2_with fail
        refine (cloneStrings_any (f k) (L k) (V k) _ (unhide HS) hLk).mono ?_
        rintro e w1 ⟨v', rfl, hs', hb'⟩
        have hrow1 := (unhide HR).of_block (w' := w1) (hb'.block _ (unhide HR).lt)
        have hst : w1.cell? ⟨w.heap.size, k, none⟩ = some (.slice none 0 0) := by simpa using hrow1.cell hlt
        have hfr : w1.frozen? ⟨w.heap.size, k, none⟩ = false := hrow1.frozen k
        have hg1 : ∀ j, j < k → Strs w1 (g j) (L j) (V j) := fun j hj => (unhide HG j hj).below hb'
        have hbel1 : Below w.heap.size w w1 := (unhide HB).trans (hb'.mono (unhide HB).size)
        have hone : ∃ a' c', v' = .slice a' (L k) c' := by obtain ⟨a', _, _, c', e, _⟩ := hs'; exact ⟨a', c', e⟩
        obtain ⟨a', c', rfl⟩ := hone
        have HR1 := hide hrow1
        have HG1 := hide hg1
        have HB1 := hide hbel1
        have HS1 := hide hs'
        clear hrow1 hg1 hbel1 hs' hb'
        go_wp2
        go_roundw
        case rel =>
          have hlt' := (unhide HR1).lt
          have hkeep : ∀ (u : Value) (nn : Nat) (SS : Nat → ByteArray), Strs w1 u nn SS → Strs (w1.setCell ⟨w.heap.size, k, none⟩ (.slice a' (L k) c')) u nn SS := by
            rintro u nn SS ⟨a2, b2, o2, c2, hu, ha2, hc2⟩
            refine ⟨a2, b2, o2, c2, hu, ha2, fun i hi => ?_⟩
            rw [World.cell?_setCell_other _ _ _ _ (fun e => ?_)]
            · exact hc2 i hi
            · have e1 := hc2 i hi
              rw [← e] at e1
              have e2 := (unhide HR1).cell hlt
              rw [e1] at e2
              simp at e2
          refine ⟨k + 1, fun j => if j = k then .slice a' (L k) c' else g j, by omega, by go_num, ((unhide HR1).set k (.slice a' (L k) c')).congr (fun i hi => ?_), fun j hj => ?_, (unhide HB1).setCell (p := ⟨w.heap.size, k, none⟩) (Nat.le_refl _) _⟩
          · by_cases e : i = k
            · subst e; simp
            · have : (i < k + 1) = (i < k) := by simp; omega
              simp [e, this]
          · by_cases e : j = k
            · subst e; simp only [if_true]; exact hkeep _ _ _ (unhide HS1)
            · simp only [e, if_false]; exact hkeep _ _ _ (unhide HG1 j (by omega))
        case measure => simp [intOf]; omega
      · clear hc ha
        go_wp2
        go_ret
        exact ⟨_, rfl, ⟨_, w.heap.size, 0, m, g, rfl, fun _ => rfl, fun i hi => ⟨by
          have := hrow.cell hi
          rw [if_pos (by omega)] at this
          rw [Nat.zero_add]; exact this, hg i (by omega)⟩⟩, hbel⟩

/-! ### The guards -/
theorem sumTo_le {f : Nat → Nat} {j k : Nat} (h : j ≤ k) : sumTo f j ≤ sumTo f k := by
  induction k with
  | zero => rw [Nat.le_zero.1 h]; exact Nat.le_refl _
  | succ k ih =>
    by_cases e : j = k + 1
    · rw [e]; exact Nat.le_refl _
    · have := ih (by omega)
      show _ ≤ sumTo f k + f k
      omega

/-- A bool comes back; where it is true, p. -/
def Answer (p : Prop) (e : Ending) : Prop := ∃ r : Bool, e = .returned (.bool r) ∧ (r = true → p)
theorem Answer.no (p : Prop) : Answer p (.returned (.bool false)) := ⟨false, rfl, fun h => Bool.noConfusion h⟩
theorem Answer.yes {p : Prop} (h : p) : Answer p (.returned (.bool true)) := ⟨true, rfl, fun _ => h⟩

end Go.Proofs.Qxb6604705aMods
