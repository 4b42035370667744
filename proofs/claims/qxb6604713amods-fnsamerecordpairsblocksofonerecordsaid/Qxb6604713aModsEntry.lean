/-
  SHARED WALKS of seat b6604713aM over entries: 'sameRecord', 'ZZsameRecord', 'ZZnewEntry', 'zzSame', 'zzSound'.
-/
import Derived.Test.Qxb6604713aModsRows
import Derived.WalkKit
import Derived.ProofKit
import Derived.WalkLawsBesides
import Derived.WalkSpells
import Derived.Below
import Derived.Deep.MidRow
import Derived.Deep.WholeRow
import Derived.Lib.QuietBelow
import Derived.BigQuiet
namespace Go.Proofs.Qxb6604713aMods.Entry
open Go.ChangeShapes Go.WideShapes Go.ChangeAt Go.RowKit

theorem hide {p : Prop} (h : p) : Hid p := h
theorem unhide {p : Prop} (h : Hid p) : p := h

/-! ### An entry as the model lays it: 42 cells -/
structure Ent where
  sc : List Int
  off : Int
  span : Int
  size : Int
  nth : Int
  kind : Int
  named : Bool
  pos : Int
  ver : Bool
  unr : Bool
  fwd : Int

def Ent.row (x : Ent) : List Value := x.sc.map (Value.int .u8)
def Ent.tail (x : Ent) : List Value := [.int .i64 x.off, .int .u32 x.span, .int .u32 x.size, .int .i64 x.nth, .int .u8 x.kind, .bool x.named, .int .i64 x.pos, .bool x.ver, .bool x.unr, .int .i64 x.fwd]
def Ent.list (x : Ent) : List Value := x.row ++ x.tail
def Ent.cells (x : Ent) : Array Value := x.list.toArray
def Ent.ok (x : Ent) : Prop := x.sc.length = 32

theorem Ent.row_length {x : Ent} (h : x.ok) : x.row.length = 32 := by simp [Ent.row]; exact h
theorem Ent.list_length {x : Ent} (h : x.ok) : x.list.length = 42 := by simp [Ent.list, Ent.row_length h, Ent.tail]
theorem Ent.cells_size {x : Ent} (h : x.ok) : x.cells.size = 42 := by simp [Ent.cells, Ent.list_length h]
theorem Ent.cells_tail {x : Ent} (h : x.ok) (j : Nat) : x.cells[32 + j]? = x.tail[j]? := by
  simp only [Ent.cells, Ent.list, List.getElem?_toArray]
  rw [List.getElem?_append_right (by rw [Ent.row_length h]; omega), Ent.row_length h]
  congr 1; omega
theorem Ent.cells_row {x : Ent} (h : x.ok) (j : Nat) (hj : j < 32) : x.cells[j]? = x.row[j]? := by
  simp only [Ent.cells, Ent.list, List.getElem?_toArray]
  rw [List.getElem?_append_left (by rw [Ent.row_length h]; omega)]
theorem Ent.one {x : Ent} : ∀ v ∈ x.list, v.oneCell' = true := by
  intro v hv
  simp only [Ent.list, Ent.row, Ent.tail, List.mem_append, List.mem_map] at hv
  rcases hv with ⟨n, _, rfl⟩ | hv
  · rfl
  · simp at hv
    rcases hv with rfl | rfl | rfl | rfl | rfl | rfl | rfl | rfl | rfl | rfl <;> rfl
theorem Ent.c32 {x : Ent} (h : x.ok) : x.cells[32]? = some (.int .i64 x.off) := Ent.cells_tail h 0
theorem Ent.c33 {x : Ent} (h : x.ok) : x.cells[33]? = some (.int .u32 x.span) := Ent.cells_tail h 1
theorem Ent.c34 {x : Ent} (h : x.ok) : x.cells[34]? = some (.int .u32 x.size) := Ent.cells_tail h 2
theorem Ent.c35 {x : Ent} (h : x.ok) : x.cells[35]? = some (.int .i64 x.nth) := Ent.cells_tail h 3
theorem Ent.c36 {x : Ent} (h : x.ok) : x.cells[36]? = some (.int .u8 x.kind) := Ent.cells_tail h 4
theorem Ent.c37 {x : Ent} (h : x.ok) : x.cells[37]? = some (.bool x.named) := Ent.cells_tail h 5
theorem Ent.c38 {x : Ent} (h : x.ok) : x.cells[38]? = some (.int .i64 x.pos) := Ent.cells_tail h 6
theorem Ent.c39 {x : Ent} (h : x.ok) : x.cells[39]? = some (.bool x.ver) := Ent.cells_tail h 7
theorem Ent.c40 {x : Ent} (h : x.ok) : x.cells[40]? = some (.bool x.unr) := Ent.cells_tail h 8
theorem Ent.c41 {x : Ent} (h : x.ok) : x.cells[41]? = some (.int .i64 x.fwd) := Ent.cells_tail h 9

/-- What 'sameRecord' answers. -/
def same (x y : Ent) : Bool := decide (0 ≤ x.pos) && decide (0 ≤ y.pos) && decide (0 ≤ x.off) && (x.off == y.off) && (x.span == y.span)

theorem ret_bool {a b : Bool} (h : a = b) : Ending.returned (.bool a) = .returned (.bool b) := by rw [h]

theorem Trym.info38 : (Trym.prog.info? 38).map (·.size) = some 42 := by kernel_rfl
theorem Trym.info28 : (Trym.prog.info? 28).map (·.size) = some 42 := by kernel_rfl
theorem Trym.info25 : (Trym.prog.info? 25).map (·.size) = some 32 := by kernel_rfl

set_option maxHeartbeats 800000 in
theorem sameRecord_any (x y : Ent) (hx : x.ok) (hy : y.ok) (w : World) :
    Calls Trym.prog 15 #[.agg x.cells, .agg y.cells] w fun e w' => e = .returned (.bool (same x y)) ∧ w' = (w.alloc (.cells x.cells 38)).alloc (.cells y.cells 38) := by
  have x38 := Ent.c38 hx
  have x32 := Ent.c32 hx
  have x33 := Ent.c33 hx
  have y38 := Ent.c38 hy
  have y32 := Ent.c32 hy
  have y33 := Ent.c33 hy
  by_cases h1 : 0 ≤ x.pos
  · by_cases h2 : 0 ≤ y.pos
    · by_cases h3 : 0 ≤ x.off
      · by_cases h4 : x.off = y.off
        · by_cases h5 : x.span = y.span
          · have HS : Hid (same x y = true) := by simp [Hid, same, h1, h2, h3, ← h4, h5]
            have b4 : (x.off == y.off) = true := by simp [h4]
            have b5 : (x.span == y.span) = true := by simp [h5]
            clear h4 h5
            go_enter Trym.func15, Trym.ntmps15
            go_wp2
            go_ret
            exact ⟨ret_bool HS.out.symm, rfl⟩
          · have HS : Hid (same x y = false) := by simp [Hid, same, h5]
            have b4 : (x.off == y.off) = true := by simp [h4]
            have b5 : (x.span == y.span) = false := by simp [h5]
            clear h4 h5
            go_enter Trym.func15, Trym.ntmps15
            go_wp2
            go_ret
            exact ⟨ret_bool HS.out.symm, rfl⟩
        · have HS : Hid (same x y = false) := by simp [Hid, same, h4]
          have b4 : (x.off == y.off) = false := by simp [h4]
          clear h4
          go_enter Trym.func15, Trym.ntmps15
          go_wp2
          go_ret
          exact ⟨ret_bool HS.out.symm, rfl⟩
      · have HS : Hid (same x y = false) := by simp [Hid, same]; omega
        go_enter Trym.func15, Trym.ntmps15
        go_wp2
        go_ret
        exact ⟨ret_bool HS.out.symm, rfl⟩
    · have HS : Hid (same x y = false) := by simp [Hid, same]; omega
      go_enter Trym.func15, Trym.ntmps15
      go_wp2
      go_ret
      exact ⟨ret_bool HS.out.symm, rfl⟩
  · have HS : Hid (same x y = false) := by simp [Hid, same]; omega
    go_enter Trym.func15, Trym.ntmps15
    go_wp2
    go_ret
    exact ⟨ret_bool HS.out.symm, rfl⟩

set_option maxHeartbeats 800000 in
theorem zzsameRecord_any (x y : Ent) (hx : x.ok) (hy : y.ok) (w : World) :
    Calls Trym.prog 13 #[.agg x.cells, .agg y.cells] w fun e w' => e = .returned (.bool (same x y)) ∧ Below w.heap.size w w' := by
  have ix : (Trym.prog.info? 38).map (·.size) = some x.cells.size := by rw [Ent.cells_size hx]; exact Trym.info38
  have iy : (Trym.prog.info? 38).map (·.size) = some y.cells.size := by rw [Ent.cells_size hy]; exact Trym.info38
  have IX := hide ix
  have IY := hide iy
  clear ix iy
  go_enter Trym.func13, Trym.ntmps13
  go_wp2_with (first
    | (refine wpList_load_row rfl 38 (.tmp 2) rfl _ rfl 38 x.cells (0, 0) _ (heap_alloc2_old _ _ _) Trym.underlying38 rfl (unhide IX) ?_)
    | (refine wpList_load_row rfl 38 (.tmp 3) rfl _ rfl 38 y.cells (0, 0) _ (heap_alloc2_new _ _ _) Trym.underlying38 rfl (unhide IY) ?_)
    | fail)
  refine (sameRecord_any x y hx hy _).mono ?_
  rintro e w' ⟨rfl, rfl⟩
  go_wp2
  go_ret
  exact ⟨rfl, ((((Below.refl _ _).alloc (Nat.le_refl _) _).alloc (by simp) _).alloc (by simp; omega) _).alloc (by simp; omega) _⟩

/-- What 'zzSound' answers. -/
def sound (x : Ent) : Bool := decide (0 ≤ x.pos) && decide (0 ≤ x.off)

set_option maxHeartbeats 800000 in
theorem sound_any (x : Ent) (hx : x.ok) (w : World) :
    Calls Trym.prog 10 #[.agg x.cells] w fun e w' => e = .returned (.bool (sound x)) ∧ w' = w.alloc (.cells x.cells 28) := by
  have x38 := Ent.c38 hx
  have x32 := Ent.c32 hx
  by_cases h1 : 0 ≤ x.pos
  · by_cases h2 : 0 ≤ x.off
    · have HS : Hid (sound x = true) := by simp [Hid, sound, h1, h2]
      go_enter Trym.func10, Trym.ntmps10
      go_wp2
      go_ret
      exact ⟨ret_bool HS.out.symm, rfl⟩
    · have HS : Hid (sound x = false) := by simp [Hid, sound]; omega
      go_enter Trym.func10, Trym.ntmps10
      go_wp2
      go_ret
      exact ⟨ret_bool HS.out.symm, rfl⟩
  · have HS : Hid (sound x = false) := by simp [Hid, sound]; omega
    go_enter Trym.func10, Trym.ntmps10
    go_wp2
    go_ret
    exact ⟨ret_bool HS.out.symm, rfl⟩

/-! ### 'ZZnewEntry' -/
theorem list32 (l : List Int) (h : l.length = 32) : ∃ s0 s1 s2 s3 s4 s5 s6 s7 s8 s9 s10 s11 s12 s13 s14 s15 s16 s17 s18 s19 s20 s21 s22 s23 s24 s25 s26 s27 s28 s29 s30 s31 : Int, l = [s0, s1, s2, s3, s4, s5, s6, s7, s8, s9, s10, s11, s12, s13, s14, s15, s16, s17, s18, s19, s20, s21, s22, s23, s24, s25, s26, s27, s28, s29, s30, s31] := by
  obtain _ | ⟨s0, l⟩ := l
  · simp at h
  obtain _ | ⟨s1, l⟩ := l
  · simp at h
  obtain _ | ⟨s2, l⟩ := l
  · simp at h
  obtain _ | ⟨s3, l⟩ := l
  · simp at h
  obtain _ | ⟨s4, l⟩ := l
  · simp at h
  obtain _ | ⟨s5, l⟩ := l
  · simp at h
  obtain _ | ⟨s6, l⟩ := l
  · simp at h
  obtain _ | ⟨s7, l⟩ := l
  · simp at h
  obtain _ | ⟨s8, l⟩ := l
  · simp at h
  obtain _ | ⟨s9, l⟩ := l
  · simp at h
  obtain _ | ⟨s10, l⟩ := l
  · simp at h
  obtain _ | ⟨s11, l⟩ := l
  · simp at h
  obtain _ | ⟨s12, l⟩ := l
  · simp at h
  obtain _ | ⟨s13, l⟩ := l
  · simp at h
  obtain _ | ⟨s14, l⟩ := l
  · simp at h
  obtain _ | ⟨s15, l⟩ := l
  · simp at h
  obtain _ | ⟨s16, l⟩ := l
  · simp at h
  obtain _ | ⟨s17, l⟩ := l
  · simp at h
  obtain _ | ⟨s18, l⟩ := l
  · simp at h
  obtain _ | ⟨s19, l⟩ := l
  · simp at h
  obtain _ | ⟨s20, l⟩ := l
  · simp at h
  obtain _ | ⟨s21, l⟩ := l
  · simp at h
  obtain _ | ⟨s22, l⟩ := l
  · simp at h
  obtain _ | ⟨s23, l⟩ := l
  · simp at h
  obtain _ | ⟨s24, l⟩ := l
  · simp at h
  obtain _ | ⟨s25, l⟩ := l
  · simp at h
  obtain _ | ⟨s26, l⟩ := l
  · simp at h
  obtain _ | ⟨s27, l⟩ := l
  · simp at h
  obtain _ | ⟨s28, l⟩ := l
  · simp at h
  obtain _ | ⟨s29, l⟩ := l
  · simp at h
  obtain _ | ⟨s30, l⟩ := l
  · simp at h
  obtain _ | ⟨s31, l⟩ := l
  · simp at h
  obtain _ | ⟨s32, l⟩ := l
  · exact ⟨s0, s1, s2, s3, s4, s5, s6, s7, s8, s9, s10, s11, s12, s13, s14, s15, s16, s17, s18, s19, s20, s21, s22, s23, s24, s25, s26, s27, s28, s29, s30, s31, rfl⟩
  · simp at h

set_option maxRecDepth 100000 in
theorem built38 (x : Ent) (hx : x.ok) : Trym.prog.built 38 [(0, .agg x.row.toArray), (1, .int .i64 x.off), (2, .int .u32 x.span), (3, .int .u32 x.size), (4, .int .i64 x.nth), (5, .int .u8 x.kind), (6, .bool x.named), (7, .int .i64 x.pos), (8, .bool x.ver), (9, .bool x.unr), (10, .int .i64 x.fwd)] = some x.cells := by
  obtain ⟨sc, off, span, size, nth, kind, named, pos, ver, unr, fwd⟩ := x
  obtain ⟨s0, s1, s2, s3, s4, s5, s6, s7, s8, s9, s10, s11, s12, s13, s14, s15, s16, s17, s18, s19, s20, s21, s22, s23, s24, s25, s26, s27, s28, s29, s30, s31, rfl⟩ := list32 sc hx
  kernel_rfl

theorem below_setRow {B : Nat} {a w : World} (h : Below B a w) {g : Nat} (hg : B ≤ g) (cs : Array Value) : Below B a (w.setRow g cs) :=
  h.trans ⟨rfl, rfl, rfl, by simp, fun k hk => setRow_other w g k cs (by omega)⟩

theorem wpList_build_as {P : Program} {ops : Array Oper} {rest : List Oper} {o : Oper} {a : Act} {w : World} {Q : Exit → Act → World → Prop} (hg : o.guard = none) (t : TypeId) (parts : List (Nat × Operand)) (ho : o.op = .build t parts.toArray)
    (vals : List (Nat × Value)) (cells : Array Value) (hb : P.built t vals = some cells) (hv : parts.map (fun p => (p.1, a.eval p.2)) = vals)
    (h : wpList P ops Q rest (a.put o.dst (.agg cells)) w) : wpList P ops Q (o :: rest) a w := by
  have e : (parts.toArray.map fun (i, x) => (i, a.eval x)).toList = vals := by simpa using hv
  exact wpList_build hg t parts.toArray ho (by rw [e, hb]; rfl) (by rw [e, hb]; exact h)

set_option maxHeartbeats 200000 in
theorem newEntry_any (x : Ent) (hx : x.ok) (w : World) :
    Calls Trym.prog 14 #[.agg x.row.toArray, .int .i64 x.off, .int .u32 x.span, .int .u32 x.size, .int .i64 x.nth, .int .u8 x.kind, .bool x.named, .int .i64 x.pos, .bool x.ver, .bool x.unr, .int .i64 x.fwd] w
      fun e w' => e = .returned (.agg x.cells) ∧ Below w.heap.size w w' := by
  have i38 : (Trym.prog.info? 38).map (·.size) = some x.cells.size := by rw [Ent.cells_size hx]; exact Trym.info38
  have i25 : (Trym.prog.info? 25).map (·.size) = some x.row.toArray.size := by rw [List.size_toArray, Ent.row_length hx]; exact Trym.info25
  have I38 := hide i38
  have I25 := hide i25
  have HB := hide (built38 x hx)
  have h1 := hide (show x.cells.all (·.oneCell') = true from all_oneCell_toArray Ent.one)
  have hsz := hide (Ent.cells_size hx)
  clear i38 i25
  generalize x.row.toArray = row at *
  go_enter Trym.func14, Trym.ntmps14
  go_wp2_with (first
    | (refine wpList_load_row rfl 25 (.tmp 11) rfl _ rfl 25 row (0, 0) _ (heap_alloc2_old _ _ _) Trym.underlying25 rfl (unhide I25) ?_)
    | (refine wpList_build_as rfl 38 _ rfl _ x.cells (unhide HB) rfl ?_)
    | (refine wpList_store_row rfl 38 (.tmp 22) (.tmp 34) rfl _ x.cells rfl rfl 38 _ (heap_alloc2_new _ _ _) (unhide I38) (unhide hsz).symm (unhide h1) ?_)
    | fail)
  refine bodyPost_ret (v := .agg x.cells) (results_cell_row (p := 22) (ty := 38) Trym.results14 _ _ (w.heap.size + 1) 38 x.cells (0, 0) _ rfl (setRow_heap _ _ _ _ 38 (0, 0) (heap_alloc2_new _ _ _)) Trym.underlying38 rfl (unhide I38)) rfl ⟨rfl, ?_⟩
  exact below_setRow (((Below.refl _ _).alloc (Nat.le_refl _) _).alloc (by simp) _) (by omega) _

end Go.Proofs.Qxb6604713aMods.Entry
