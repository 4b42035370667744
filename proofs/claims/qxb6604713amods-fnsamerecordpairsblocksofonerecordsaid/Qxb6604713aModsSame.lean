/-
  SHARED WALK of seat b6604713aM: zzSame.
-/
import Derived.Test.Qxb6604713aModsEntry
import Derived.Maps.RangeWalk
namespace Go.Proofs.Qxb6604713aMods.Entry
open Go.ChangeShapes Go.WideShapes Go.ChangeAt Go.RowKit Go.Sort

/-- A whole array out of the middle of a block, in a region that draws. -/
theorem quiet_load_mid {P : Program} {C : World → Prop} {op : Oper} {a : Act} {K : Act → Prop} (ty : TypeId) (x : Operand) (ho : op.op = .load ty x)
    (b o : Nat) (hx : a.eval x = .pointer (some ⟨b, o, none⟩)) (cs : List Value) (d : TypeDesc) (hc : ∀ w, C w → w.rangeAt b o cs)
    (hu : P.underlying ty = some d) (hd : d.isRow = true) (hi : (P.info? ty).map (·.size) = some cs.length)
    (h : K (a.put op.dst (.agg cs.toArray))) : op.quiet P a C K :=
  ⟨_, fun w hw => by
    unfold Oper.quietAt execOp
    simp only [ho, hx, Instr.loadAt, Instr.sureAddr, Sem.run_bind, Sem.run_pure, Result.andThen_ok, run_loadVar_mid w b o ty cs d (hc w hw) hu hd hi]
    exact ⟨rfl, rfl⟩, h⟩

theorem row_range {w : World} {b : Nat} {x : Ent} {t : TypeId} (hx : x.ok) (h : w.heap[b]? = some (.cells x.cells t (0, 0))) : w.rangeAt b 0 x.row := fun j v hv => by
  have hj : j < 32 := by have := (List.getElem?_eq_some_iff.1 hv).1; rw [Ent.row_length hx] at this; exact this
  rw [Nat.zero_add, cell_of_row w b j x.cells t (0, 0) h, Ent.cells_row hx j hj]; exact hv

set_option maxHeartbeats 400000 in
theorem zzsame_any (x y : Ent) (hx : x.ok) (hy : y.ok) (w : World) :
    Calls Trym.prog 9 #[.agg x.cells, .agg y.cells] w fun e w' => e = .returned (.bool (same x y)) ∧ Below w.heap.size w w' := by
  have HX := hide hx
  have HY := hide hy
  have HI : Hid ((Trym.prog.info? 25).map (·.size) = some x.row.length) := by rw [Hid, Ent.row_length hx]; exact Trym.info25
  have HJ : Hid ((Trym.prog.info? 25).map (·.size) = some y.row.length) := by rw [Hid, Ent.row_length hy]; exact Trym.info25
  clear hx hy
  go_enter Trym.func9, Trym.ntmps9
  go_wp2
  obtain ⟨W, hW⟩ : ∃ W, W = (w.alloc (.cells x.cells 28)).alloc (.cells y.cells 28) := ⟨_, rfl⟩
  have hbx : W.heap[w.heap.size]? = some (.cells x.cells 28 (0, 0)) := by rw [hW]; exact heap_alloc2_old _ _ _
  have hby : W.heap[w.heap.size + 1]? = some (.cells y.cells 28 (0, 0)) := by rw [hW]; exact heap_alloc2_new _ _ _
  have HB : Hid (Below w.heap.size w W) := by rw [Hid, hW]; exact ((Below.refl _ _).alloc (Nat.le_refl _) _).alloc (by simp) _
  rw [← hW]
  clear hW
  have kx32 : ∀ d os, (grow (redrawn W d) os).cell? ⟨w.heap.size, 32, none⟩ = some (.int .i64 x.off) := cell_regrown (by rw [cell_of_row W _ 32 _ _ _ hbx]; exact Ent.c32 (unhide HX))
  have kx33 : ∀ d os, (grow (redrawn W d) os).cell? ⟨w.heap.size, 33, none⟩ = some (.int .u32 x.span) := cell_regrown (by rw [cell_of_row W _ 33 _ _ _ hbx]; exact Ent.c33 (unhide HX))
  have kx34 : ∀ d os, (grow (redrawn W d) os).cell? ⟨w.heap.size, 34, none⟩ = some (.int .u32 x.size) := cell_regrown (by rw [cell_of_row W _ 34 _ _ _ hbx]; exact Ent.c34 (unhide HX))
  have kx35 : ∀ d os, (grow (redrawn W d) os).cell? ⟨w.heap.size, 35, none⟩ = some (.int .i64 x.nth) := cell_regrown (by rw [cell_of_row W _ 35 _ _ _ hbx]; exact Ent.c35 (unhide HX))
  have kx36 : ∀ d os, (grow (redrawn W d) os).cell? ⟨w.heap.size, 36, none⟩ = some (.int .u8 x.kind) := cell_regrown (by rw [cell_of_row W _ 36 _ _ _ hbx]; exact Ent.c36 (unhide HX))
  have kx37 : ∀ d os, (grow (redrawn W d) os).cell? ⟨w.heap.size, 37, none⟩ = some (.bool x.named) := cell_regrown (by rw [cell_of_row W _ 37 _ _ _ hbx]; exact Ent.c37 (unhide HX))
  have kx38 : ∀ d os, (grow (redrawn W d) os).cell? ⟨w.heap.size, 38, none⟩ = some (.int .i64 x.pos) := cell_regrown (by rw [cell_of_row W _ 38 _ _ _ hbx]; exact Ent.c38 (unhide HX))
  have kx39 : ∀ d os, (grow (redrawn W d) os).cell? ⟨w.heap.size, 39, none⟩ = some (.bool x.ver) := cell_regrown (by rw [cell_of_row W _ 39 _ _ _ hbx]; exact Ent.c39 (unhide HX))
  have kx40 : ∀ d os, (grow (redrawn W d) os).cell? ⟨w.heap.size, 40, none⟩ = some (.bool x.unr) := cell_regrown (by rw [cell_of_row W _ 40 _ _ _ hbx]; exact Ent.c40 (unhide HX))
  have kx41 : ∀ d os, (grow (redrawn W d) os).cell? ⟨w.heap.size, 41, none⟩ = some (.int .i64 x.fwd) := cell_regrown (by rw [cell_of_row W _ 41 _ _ _ hbx]; exact Ent.c41 (unhide HX))
  have ky32 : ∀ d os, (grow (redrawn W d) os).cell? ⟨w.heap.size + 1, 32, none⟩ = some (.int .i64 y.off) := cell_regrown (by rw [cell_of_row W _ 32 _ _ _ hby]; exact Ent.c32 (unhide HY))
  have ky33 : ∀ d os, (grow (redrawn W d) os).cell? ⟨w.heap.size + 1, 33, none⟩ = some (.int .u32 y.span) := cell_regrown (by rw [cell_of_row W _ 33 _ _ _ hby]; exact Ent.c33 (unhide HY))
  have ky34 : ∀ d os, (grow (redrawn W d) os).cell? ⟨w.heap.size + 1, 34, none⟩ = some (.int .u32 y.size) := cell_regrown (by rw [cell_of_row W _ 34 _ _ _ hby]; exact Ent.c34 (unhide HY))
  have ky35 : ∀ d os, (grow (redrawn W d) os).cell? ⟨w.heap.size + 1, 35, none⟩ = some (.int .i64 y.nth) := cell_regrown (by rw [cell_of_row W _ 35 _ _ _ hby]; exact Ent.c35 (unhide HY))
  have ky36 : ∀ d os, (grow (redrawn W d) os).cell? ⟨w.heap.size + 1, 36, none⟩ = some (.int .u8 y.kind) := cell_regrown (by rw [cell_of_row W _ 36 _ _ _ hby]; exact Ent.c36 (unhide HY))
  have ky37 : ∀ d os, (grow (redrawn W d) os).cell? ⟨w.heap.size + 1, 37, none⟩ = some (.bool y.named) := cell_regrown (by rw [cell_of_row W _ 37 _ _ _ hby]; exact Ent.c37 (unhide HY))
  have ky38 : ∀ d os, (grow (redrawn W d) os).cell? ⟨w.heap.size + 1, 38, none⟩ = some (.int .i64 y.pos) := cell_regrown (by rw [cell_of_row W _ 38 _ _ _ hby]; exact Ent.c38 (unhide HY))
  have ky39 : ∀ d os, (grow (redrawn W d) os).cell? ⟨w.heap.size + 1, 39, none⟩ = some (.bool y.ver) := cell_regrown (by rw [cell_of_row W _ 39 _ _ _ hby]; exact Ent.c39 (unhide HY))
  have ky40 : ∀ d os, (grow (redrawn W d) os).cell? ⟨w.heap.size + 1, 40, none⟩ = some (.bool y.unr) := cell_regrown (by rw [cell_of_row W _ 40 _ _ _ hby]; exact Ent.c40 (unhide HY))
  have ky41 : ∀ d os, (grow (redrawn W d) os).cell? ⟨w.heap.size + 1, 41, none⟩ = some (.int .i64 y.fwd) := cell_regrown (by rw [cell_of_row W _ 41 _ _ _ hby]; exact Ent.c41 (unhide HY))
  have HRX : Hid (∀ w', (∃ p : Regrown, w' = grow (redrawn W p.d) p.os) → w'.rangeAt w.heap.size 0 x.row) := by
    rintro w' ⟨p, rfl⟩
    exact row_range (unhide HX) (by rw [(below_regrown W p.d p.os).block _ (Array.getElem?_eq_some_iff.1 hbx).1]; exact hbx)
  have HRY : Hid (∀ w', (∃ p : Regrown, w' = grow (redrawn W p.d) p.os) → w'.rangeAt (w.heap.size + 1) 0 y.row) := by
    rintro w' ⟨p, rfl⟩
    exact row_range (unhide HY) (by rw [(below_regrown W p.d p.os).block _ (Array.getElem?_eq_some_iff.1 hby).1]; exact hby)
  clear hbx hby
  refine wp_region_quiet_below (by kernel_rfl) (by kernel_rfl) ?_
  go_big_quiet_step (fail)
  refine BigFrame.wpQuiet_want rfl (fun K hK => ?_)
  refine quiet_load_mid 25 (.tmp 5) rfl _ 0 rfl x.row _ (unhide HRX) Trym.underlying25 rfl (unhide HI) ?_
  refine hK _ ?_
  clear hK K
  go_frame
  repeat (go_big_quiet_step (exact Calls.regrown_of (newEntry_any x (unhide HX) _)))
  refine BigFrame.wpQuiet_want rfl (fun K hK => ?_)
  refine quiet_load_mid 25 (.tmp 28) rfl _ 0 rfl y.row _ (unhide HRY) Trym.underlying25 rfl (unhide HJ) ?_
  refine hK _ ?_
  clear hK K
  go_frame
  repeat (go_big_quiet_step (first | exact Calls.regrown_of (newEntry_any y (unhide HY) _) | exact Calls.regrown_of (zzsameRecord_any x y (unhide HX) (unhide HY) _)))
  refine wpQuiet_nil ?_
  intro _ hw'
  obtain ⟨⟨dq, osq⟩, hw''⟩ := hw'
  subst hw''
  go_wp2
  go_ret
  exact ⟨rfl, (unhide HB).trans ((below_regrown W dq osq).mono (unhide HB).size)⟩

/-! ### A block that holds an entry -/
def at28 (w : World) (b : Nat) (x : Ent) : Prop := w.heap[b]? = some (.cells x.cells 28 (0, 0))

theorem at28.lt {w : World} {b : Nat} {x : Ent} (h : at28 w b x) : b < w.heap.size := (Array.getElem?_eq_some_iff.1 h).1
theorem at28.below {w w' : World} {b : Nat} {x : Ent} (h : at28 w b x) (hb : RowKit.Below w.heap.size w w') : at28 w' b x := (hb.block b h.lt).trans h

/-- A whole entry out of its block. -/
theorem wpList_load28 {ops : Array Oper} {rest : List Oper} {o : Oper} {a : Act} {w : World} {Q : Exit → Act → World → Prop} (hgd : o.guard = none) (t : Tmp) (ho : o.op = .load 28 (.tmp t))
    {b : Nat} {x : Ent} (hx : a.eval (.tmp t) = .pointer (some ⟨b, 0, none⟩)) (hok : x.ok) (h : at28 w b x)
    (hK : wpList Trym.prog ops Q rest (a.put o.dst (.agg x.cells)) w) : wpList Trym.prog ops Q (o :: rest) a w :=
  wpList_load_row hgd 28 (.tmp t) ho b hx 28 x.cells (0, 0) _ h Trym.underlying28 rfl (by rw [Ent.cells_size hok]; exact Trym.info28) hK

theorem same_self (x : Ent) : same x x = sound x := by
  simp [same, sound]
theorem same_comm (x y : Ent) : same y x = same x y := by
  rw [Bool.eq_iff_iff]; simp [same]; constructor <;> (rintro ⟨⟨⟨⟨h1, h2⟩, h3⟩, h4⟩, h5⟩; exact ⟨⟨⟨⟨h2, h1⟩, by omega⟩, h4.symm⟩, h5.symm⟩)
theorem same_iff (x y : Ent) : same x y = true ↔ 0 ≤ x.pos ∧ 0 ≤ y.pos ∧ 0 ≤ x.off ∧ x.off = y.off ∧ x.span = y.span := by
  simp [same, and_assoc]
theorem same_trans {x y z : Ent} (h : same x y = true) (k : same y z = true) : same x z = true := by
  rw [same_iff] at *; omega
theorem same_sound {x y : Ent} (h : same x y = true) : sound x = true ∧ sound y = true := by
  rw [same_iff] at h; simp [sound]; omega

/-- .. under a guard that says yes. -/
theorem wpList_load28g {ops : Array Oper} {rest : List Oper} {o : Oper} {a : Act} {w : World} {Q : Exit → Act → World → Prop} (t : Tmp) (ho : o.op = .load 28 (.tmp t)) (hw : Region.wanted o (yielded ops a.tmps) = true)
    {b : Nat} {x : Ent} (hx : a.eval (.tmp t) = .pointer (some ⟨b, 0, none⟩)) (hok : x.ok) (h : at28 w b x)
    (hK : wpList Trym.prog ops Q rest (a.put o.dst (.agg x.cells)) w) : wpList Trym.prog ops Q (o :: rest) a w := by
  rw [wpList, if_pos hw]
  exact .inl (wp_load_row 28 (.tmp t) ho b hx 28 x.cells (0, 0) _ h Trym.underlying28 rfl (by rw [Ent.cells_size hok]; exact Trym.info28) hK)

theorem at28.cell {w : World} {b : Nat} {x : Ent} (h : at28 w b x) (j : Nat) {v : Value} (hv : x.cells[j]? = some v) : w.cell? ⟨b, j, none⟩ = some v := by
  rw [cell_of_row w b j _ _ _ h]; exact hv

theorem sound_below (x : Ent) (hx : x.ok) (w : World) :
    Calls Trym.prog 10 #[.agg x.cells] w fun e w' => e = .returned (.bool (sound x)) ∧ Below w.heap.size w w' :=
  (sound_any x hx w).mono fun e w' ⟨he, hw⟩ => ⟨he, by rw [hw]; exact (Below.refl _ _).alloc (Nat.le_refl _) _⟩

/-! ### An argument of the entry's type, opened -/
theorem Trym.cells28 : Trym.prog.cellsOf 28 = 42 := by kernel_rfl
def types28 : List TypeId := List.replicate 32 5 ++ [2, 26, 26, 3, 5, 4, 2, 4, 4, 2]
theorem types28_length : types28.length = 42 := rfl
theorem types28_row (i : Nat) (h : i < 32) : types28[i]? = some 5 := by
  unfold types28
  rw [List.getElem?_append_left (by rw [List.length_replicate]; exact h), List.getElem?_replicate, if_pos h]
theorem Trym.types28 : Trym.prog.cellTypes Trym.prog.depth 28 = some types28 := by kernel_rfl

def numOf : Option Value → Int
  | some (.int _ n) => n
  | _ => 0
def boolOf : Option Value → Bool
  | some (.bool b) => b
  | _ => false

theorem cell_int {w : World} {r : Reach} {base : Nat} {u : TypeId} {k : IntKind} {c : Option Value} (hu : Trym.prog.underlying u = some (.int k)) (h : ∃ v, c = some v ∧ Cell.okWide Trym.prog w r base u v) : c = some (.int k (numOf c)) := by
  obtain ⟨v, rfl, h⟩ := h
  simp only [Cell.okWide, hu] at h
  cases v <;> simp_all [Cell.ok, numOf]
theorem cell_bool {w : World} {r : Reach} {base : Nat} {u : TypeId} {c : Option Value} (hu : Trym.prog.underlying u = some .bool) (h : ∃ v, c = some v ∧ Cell.okWide Trym.prog w r base u v) : c = some (.bool (boolOf c)) := by
  obtain ⟨v, rfl, h⟩ := h
  simp only [Cell.okWide, hu] at h
  cases v <;> simp_all [Cell.ok, boolOf]

theorem open_ent {w : World} {r : Reach} {base : Nat} {v : Value} (h : Value.okWide Trym.prog w r base 28 v) : ∃ x : Ent, x.ok ∧ v = .agg x.cells := by
  simp only [Value.okWide, Trym.underlying28] at h
  obtain ⟨cs, rfl, hsz, ts, hts, _, hcell⟩ := h
  rw [Trym.cells28] at hsz
  rw [Trym.types28] at hts
  obtain rfl := Option.some.inj hts
  have hc : ∀ (i : Nat) (u : TypeId), i < 42 → types28[i]? = some u →
      ∃ v, cs[i]? = some v ∧ Cell.okWide Trym.prog w r base u v := fun i u hi hu => by
    refine ⟨cs[i]'(by omega), by simp, ?_⟩
    obtain ⟨u', hu', ho⟩ := hcell i (cs[i]'(by omega)) (by simp)
    have e : i % 42 = i := Nat.mod_eq_of_lt hi
    rw [types28_length, e, hu] at hu'
    obtain rfl := Option.some.inj hu'
    exact ho
  have hrow : ∀ i, i < 32 → cs[i]? = some (.int .u8 (numOf cs[i]?)) := fun i hi =>
    cell_int Trym.underlying5 (hc i 5 (by omega) (types28_row i hi))
  let x : Ent := ⟨(List.range 32).map (fun i => numOf cs[i]?), numOf cs[32]?, numOf cs[33]?, numOf cs[34]?, numOf cs[35]?, numOf cs[36]?, boolOf cs[37]?, numOf cs[38]?, boolOf cs[39]?, boolOf cs[40]?, numOf cs[41]?⟩
  have hx : x.ok := by simp [Ent.ok, x]
  refine ⟨x, hx, ?_⟩
  congr 1
  apply Array.ext_getElem?
  intro i
  by_cases h1 : i < 32
  · rw [Ent.cells_row hx i h1, hrow i h1]
    simp [Ent.row, x, h1]
  · by_cases h2 : i < 42
    · obtain ⟨j, rfl⟩ : ∃ j, i = 32 + j := ⟨i - 32, by omega⟩
      rw [Ent.cells_tail hx]
      have hj : j < 10 := by omega
      match j, hj with
      | 0, _ => exact cell_int Trym.underlying2 (hc 32 2 (by omega) rfl)
      | 1, _ => exact cell_int Trym.underlying26 (hc 33 26 (by omega) rfl)
      | 2, _ => exact cell_int Trym.underlying26 (hc 34 26 (by omega) rfl)
      | 3, _ => exact cell_int Trym.underlying3 (hc 35 3 (by omega) rfl)
      | 4, _ => exact cell_int Trym.underlying5 (hc 36 5 (by omega) rfl)
      | 5, _ => exact cell_bool Trym.underlying4 (hc 37 4 (by omega) rfl)
      | 6, _ => exact cell_int Trym.underlying2 (hc 38 2 (by omega) rfl)
      | 7, _ => exact cell_bool Trym.underlying4 (hc 39 4 (by omega) rfl)
      | 8, _ => exact cell_bool Trym.underlying4 (hc 40 4 (by omega) rfl)
      | 9, _ => exact cell_int Trym.underlying2 (hc 41 2 (by omega) rfl)
    · rw [Array.getElem?_eq_none (by omega), Array.getElem?_eq_none (by rw [Ent.cells_size hx]; omega)]

end Go.Proofs.Qxb6604713aMods.Entry
