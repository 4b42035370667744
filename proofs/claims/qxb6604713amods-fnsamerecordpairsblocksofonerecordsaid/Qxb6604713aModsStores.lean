/-
  SEAT b6604713aM: laws on blocks that hold an entry: a new one, a whole store, a field's store, a field's load.
-/
import Derived.Test.Qxb6604713aModsSame
namespace Go.Proofs.Qxb6604713aMods.Entry
open Go.ChangeShapes Go.WideShapes Go.ChangeAt Go.RowKit

/-! ### The plain side -/
theorem Ent.set_tail {x : Ent} (h : x.ok) (j : Nat) (v : Value) : x.cells.setIfInBounds (32 + j) v = (x.row ++ x.tail.set j v).toArray := by
  simp only [Ent.cells, Ent.list, List.setIfInBounds_toArray]
  rw [List.set_append_right _ _ (by rw [Ent.row_length h]; omega), Ent.row_length h]
  congr 3; omega
theorem Ent.set_off {x : Ent} (h : x.ok) (n : Int) : x.cells.setIfInBounds 32 (.int .i64 n) = ({ x with off := n } : Ent).cells := Ent.set_tail h 0 _
theorem Ent.set_span {x : Ent} (h : x.ok) (n : Int) : x.cells.setIfInBounds 33 (.int .u32 n) = ({ x with span := n } : Ent).cells := Ent.set_tail h 1 _
theorem Ent.set_size {x : Ent} (h : x.ok) (n : Int) : x.cells.setIfInBounds 34 (.int .u32 n) = ({ x with size := n } : Ent).cells := Ent.set_tail h 2 _
theorem Ent.set_nth {x : Ent} (h : x.ok) (n : Int) : x.cells.setIfInBounds 35 (.int .i64 n) = ({ x with nth := n } : Ent).cells := Ent.set_tail h 3 _
theorem Ent.set_kind {x : Ent} (h : x.ok) (n : Int) : x.cells.setIfInBounds 36 (.int .u8 n) = ({ x with kind := n } : Ent).cells := Ent.set_tail h 4 _
theorem Ent.set_named {x : Ent} (h : x.ok) (n : Bool) : x.cells.setIfInBounds 37 (.bool n) = ({ x with named := n } : Ent).cells := Ent.set_tail h 5 _
theorem Ent.set_ver {x : Ent} (h : x.ok) (n : Bool) : x.cells.setIfInBounds 39 (.bool n) = ({ x with ver := n } : Ent).cells := Ent.set_tail h 7 _
theorem Ent.set_unr {x : Ent} (h : x.ok) (n : Bool) : x.cells.setIfInBounds 40 (.bool n) = ({ x with unr := n } : Ent).cells := Ent.set_tail h 8 _
theorem Ent.set_fwd {x : Ent} (h : x.ok) (n : Int) : x.cells.setIfInBounds 41 (.int .i64 n) = ({ x with fwd := n } : Ent).cells := Ent.set_tail h 9 _

def setFrom (cur : Array Value) : Nat → List Value → Array Value
  | _, [] => cur
  | o, v :: r => setFrom (cur.setIfInBounds o v) (o + 1) r

theorem heap_setCells_same (b : Nat) (t : TypeId) : ∀ (vs : List Value) (o : Nat) (w : World) (cur : Array Value), w.heap[b]? = some (.cells cur t (0, 0)) →
    (w.setCells b o vs).heap[b]? = some (.cells (setFrom cur o vs) t (0, 0))
  | [], _, _, _, h => h
  | v :: r, o, w, cur, h => heap_setCells_same b t r (o + 1) _ _ (heap_setCell_same w b o cur t v h)

theorem heap_setCells_other (b : Nat) : ∀ (vs : List Value) (o : Nat) (w : World) (k : Nat), k ≠ b → (w.setCells b o vs).heap[k]? = w.heap[k]?
  | [], _, _, _, _ => rfl
  | v :: r, o, w, k, h => (heap_setCells_other b r (o + 1) _ k h).trans (heap_setCell_other w ⟨b, o, none⟩ k v h)

theorem setCells_rest (b : Nat) : ∀ (vs : List Value) (o : Nat) (w : World), (w.setCells b o vs).os = w.os ∧ (w.setCells b o vs).tape = w.tape ∧ (w.setCells b o vs).output = w.output ∧ (w.setCells b o vs).heap.size = w.heap.size
  | [], _, _ => ⟨rfl, rfl, rfl, rfl⟩
  | v :: r, o, w => by
    obtain ⟨h1, h2, h3, h4⟩ := setCells_rest b r (o + 1) (w.setCell ⟨b, o, none⟩ v)
    exact ⟨h1, h2, h3, h4.trans (by simp [World.setCell])⟩

theorem grownBy_setCells (w : World) (b o : Nat) (vs : List Value) : w.grownBy (w.setCells b o vs) (some b) := by
  obtain ⟨h1, h2, h3, h4⟩ := setCells_rest b vs o w
  exact ⟨h1, h2, h3, by omega, fun k _ hk => heap_setCells_other b vs o w k (fun e => hk (by rw [e]))⟩

theorem setFrom_list : ∀ (vs pre l : List Value), vs.length ≤ l.length → setFrom (pre ++ l).toArray pre.length vs = (pre ++ (vs ++ l.drop vs.length)).toArray
  | [], pre, l, _ => by simp [setFrom]
  | v :: r, pre, [], h => by simp at h
  | v :: r, pre, u :: l, h => by
    have ih := setFrom_list r (pre ++ [v]) l (by simpa using h)
    simp only [setFrom, List.setIfInBounds_toArray]
    rw [List.set_append_right _ _ (Nat.le_refl _), Nat.sub_self, List.set_cons_zero]
    simpa using ih

theorem Ent.set_row {x y : Ent} (hx : x.ok) (hy : y.ok) : setFrom x.cells 0 y.row = ({ x with sc := y.sc } : Ent).cells := by
  have h := setFrom_list y.row [] x.list (by rw [Ent.row_length hy, Ent.list_length hx]; omega)
  simp only [List.nil_append, List.length_nil] at h
  rw [Ent.cells, h, Ent.row_length hy]
  unfold Ent.list
  rw [List.drop_append_of_le_length (by rw [Ent.row_length hx]; omega), List.drop_of_length_le (by rw [Ent.row_length hx]; omega)]
  rfl

/-! ### The world's side -/
theorem at28.kept {w w' : World} {b c : Nat} {x : Ent} (h : at28 w b x) (hg : w.grownBy w' (some c)) (hne : b ≠ c) : at28 w' b x :=
  (hg.block b h.lt (fun e => hne (Option.some.inj e))).trans h

def zero28 : Array Value := (List.replicate 32 (Value.int .u8 0) ++ ([.int .i64 0, .int .u32 0, .int .u32 0, .int .i64 0, .int .u8 0, .bool false, .int .i64 0, .bool false, .bool false, .int .i64 0] : List Value)).toArray
theorem zero28_size : zero28.size = 42 := rfl
theorem run_zero28 (w : World) : (zeroValue 28).run Trym.prog w = .ok (.agg zero28) w := by kernel_rfl

theorem blk_old (w : World) (o : Obj) (i : Nat) (h : i < w.heap.size) : (w.alloc o).heap[i]? = w.heap[i]? := by
  show (w.heap.push o)[i]? = w.heap[i]?
  rw [Array.getElem?_push, if_neg (Nat.ne_of_lt h)]

/-- 'alloc 28': a new block of 42 cells. -/
theorem wpList_alloc28 {ops : Array Oper} {rest : List Oper} {o : Oper} {a : Act} {w : World} {Q : Exit → Act → World → Prop} (hgd : o.guard = none) (ho : o.op = .alloc 28) (d : Tmp) (_hd : o.dst = some d)
    (hK : ∀ w' g old, w.heap.size = g → w'.heap[g]? = some (.cells old 28 (0, 0)) → old.size = 42 → w.grownBy w' (some g) → wpList Trym.prog ops Q rest (a.put o.dst (.pointer (some ⟨g, 0, none⟩))) w') :
    wpList Trym.prog ops Q (o :: rest) a w := by
  refine wpList_plain hgd fun K hK' => ?_
  have hrun : (Instr.alloc 28 true (.tuple #[])).run Trym.prog w = .ok (.pointer (some ⟨w.heap.size, 0, none⟩)) (w.alloc (.cells zero28 28)) := by
    simp only [Instr.alloc, Sem.run_bind, run_zero28, Result.andThen_ok]
    rfl
  unfold Oper.wp execOp
  simp only [ho, Sem.run_bind, hrun, Result.andThen_ok]
  exact hK' _ _ (hK _ _ _ rfl (heap_alloc_new _ _) zero28_size ⟨rfl, rfl, rfl, by simp, fun k hk _ => blk_old w _ k hk⟩)

/-- A whole entry into a block of 42 cells. -/
theorem wpList_store28 {ops : Array Oper} {rest : List Oper} {o : Oper} {a : Act} {w : World} {Q : Exit → Act → World → Prop} (hgd : o.guard = none) (t u : Tmp) (ho : o.op = .store 28 (.tmp t) (.tmp u))
    {b : Nat} {x : Ent} {old : Array Value} (hp : a.eval (.tmp t) = .pointer (some ⟨b, 0, none⟩)) (hv : a.eval (.tmp u) = .agg x.cells) (hok : x.ok) (hb : w.heap[b]? = some (.cells old 28 (0, 0))) (hs : old.size = 42)
    (hK : ∀ w', at28 w' b x → w.grownBy w' (some b) → wpList Trym.prog ops Q rest (a.put o.dst undef) w') : wpList Trym.prog ops Q (o :: rest) a w :=
  wpList_store_row hgd 28 (.tmp t) (.tmp u) ho b x.cells hp hv 28 old hb (by rw [Ent.cells_size hok]; exact Trym.info28) (by rw [Ent.cells_size hok]; exact hs) (all_oneCell_toArray Ent.one)
    (hK _ (setRow_heap w b old x.cells 28 (0, 0) hb) ⟨rfl, rfl, rfl, by simp, fun k _ hk => setRow_other w b k _ (fun e => hk (by rw [e]))⟩)

/-- The score into an entry. -/
theorem wpList_store_sc {ops : Array Oper} {rest : List Oper} {o : Oper} {a : Act} {w : World} {Q : Exit → Act → World → Prop} (hgd : o.guard = none) (t u : Tmp) (ho : o.op = .store 25 (.tmp t) (.tmp u))
    {b : Nat} {x y : Ent} (hp : a.eval (.tmp t) = .pointer (some ⟨b, 0, none⟩)) (hv : a.eval (.tmp u) = .agg y.row.toArray) (hx : x.ok) (hy : y.ok) (hb : at28 w b x)
    (hK : ∀ w', at28 w' b { x with sc := y.sc } → w.grownBy w' (some b) → wpList Trym.prog ops Q rest (a.put o.dst undef) w') : wpList Trym.prog ops Q (o :: rest) a w := by
  have hl : y.row.toArray.size = 32 := by rw [List.size_toArray, Ent.row_length hy]
  refine wpList_store_mid hgd 25 (.tmp t) (.tmp u) ho b 0 y.row.toArray hp hv (fun j hj => ?_) (by rw [hl]; exact Trym.info25) (all_oneCell_toArray (fun v hv => Ent.one (x := y) v (List.mem_append_left _ hv))) ?_
  · rw [hl] at hj
    rw [Nat.zero_add, cell_of_row w b j _ _ _ hb, frozen_of_row w b j _ _ hb]
    refine ⟨?_, rfl⟩
    rw [Array.getElem?_eq_getElem (by rw [Ent.cells_size hx]; omega)]
    rfl
  · refine hK _ ?_ (grownBy_setCells w b 0 _)
    unfold at28
    rw [heap_setCells_same b 28 _ 0 w x.cells hb, Ent.set_row hx hy]

/-- One field into an entry. -/
theorem wpList_store_f {ops : Array Oper} {rest : List Oper} {o : Oper} {a : Act} {w : World} {Q : Exit → Act → World → Prop} (hgd : o.guard = none) (ty : TypeId) (t u : Tmp) (ho : o.op = .store ty (.tmp t) (.tmp u))
    {b j : Nat} {x x' : Ent} {v : Value} (hp : a.eval (.tmp t) = .pointer (some ⟨b, j, none⟩)) (hv : a.eval (.tmp u) = v) (hone : v.cells = #[v]) (hone' : v.oneCell' = true) (hsz : (Trym.prog.info? ty).map (·.size) = some 1) (hj : j < 42)
    (hx : x.ok) (hb : at28 w b x) (hset : x.cells.setIfInBounds j v = x'.cells)
    (hK : ∀ w', at28 w' b x' → w.grownBy w' (some b) → wpList Trym.prog ops Q rest (a.put o.dst undef) w') : wpList Trym.prog ops Q (o :: rest) a w := by
  refine wpList_plain hgd fun K hK' => ?_
  have hcell : w.cell? ⟨b, j, none⟩ = some (x.cells[j]'(by rw [Ent.cells_size hx]; exact hj)) := by
    rw [cell_of_row w b j _ _ _ hb, Array.getElem?_eq_getElem]
  have hfr := frozen_of_row w b j _ _ hb
  have hrun : (storeVar ty ⟨b, j, none⟩ v).run Trym.prog w = .ok () (w.setCell ⟨b, j, none⟩ v) := by
    cases hq : Trym.prog.info? ty with
    | none => simp [hq] at hsz
    | some i =>
      have hs : i.size = 1 := by simpa [hq] using hsz
      have hadd : (⟨b, j, none⟩ : Addr).add 0 = ⟨b, j, none⟩ := by simp [Addr.add]
      have hst : (store ⟨b, j, none⟩ v).run Trym.prog w = .ok () (w.setCell ⟨b, j, none⟩ v) := by
        rw [run_store Trym.prog w _ v _ hone', hcell]; simp [hfr]
      simp [storeVar, sizeOf, typeInfo, hq, hs, hone, storeCells, hadd, hst]
  unfold Oper.wp execOp
  simp only [ho, hp, hv, Instr.storeAt, Instr.sureAddr, Sem.run_bind, Sem.run_pure, Result.andThen_ok, hrun]
  refine hK' _ _ (hK _ ?_ ?_)
  · unfold at28
    rw [heap_setCell_same w b j _ _ v hb, hset]
  · exact ⟨rfl, rfl, rfl, by simp [World.setCell], fun k _ hk => heap_setCell_other w ⟨b, j, none⟩ k v (fun e => hk (by rw [e]))⟩

/-- The score out of an entry. -/
theorem wpList_load_sc {ops : Array Oper} {rest : List Oper} {o : Oper} {a : Act} {w : World} {Q : Exit → Act → World → Prop} (hgd : o.guard = none) (t : Tmp) (ho : o.op = .load 25 (.tmp t))
    {b : Nat} {x : Ent} (hp : a.eval (.tmp t) = .pointer (some ⟨b, 0, none⟩)) (hx : x.ok) (hb : at28 w b x)
    (hK : wpList Trym.prog ops Q rest (a.put o.dst (.agg x.row.toArray)) w) : wpList Trym.prog ops Q (o :: rest) a w :=
  wpList_load_mid hgd 25 (.tmp t) ho b 0 hp x.row _ (row_range hx hb) Trym.underlying25 rfl (by rw [Ent.row_length hx]; exact Trym.info25) hK

/-- One field out of an entry (guarded or not). -/
theorem wpList_load_f {ops : Array Oper} {rest : List Oper} {o : Oper} {a : Act} {w : World} {Q : Exit → Act → World → Prop} (ty : TypeId) (hagg : ∀ w, (isAgg ty).run Trym.prog w = .ok false w) (t : Tmp) (ho : o.op = .load ty (.tmp t)) (hw : Region.wanted o (yielded ops a.tmps) = true)
    {b j : Nat} {x : Ent} {v : Value} (hp : a.eval (.tmp t) = .pointer (some ⟨b, j, none⟩)) (hb : at28 w b x) (hv : x.cells[j]? = some v)
    (hK : wpList Trym.prog ops Q rest (a.put o.dst v) w) : wpList Trym.prog ops Q (o :: rest) a w := by
  rw [wpList, if_pos hw]
  refine .inl ?_
  have hc := hb.cell j hv
  have hrun : (loadVar ty ⟨b, j, none⟩).run Trym.prog w = .ok v w := by
    simp [loadVar, Sem.run_bind, hagg, run_load, hc]
  unfold Oper.wp execOp
  simp only [ho, hp, Instr.loadAt, Instr.sureAddr, Sem.run_bind, Sem.run_pure, Result.andThen_ok, hrun]
  exact hK

theorem quiet_load28 {C : World → Prop} {op : Oper} {a : Act} {K : Act → Prop} (t : Tmp) (ho : op.op = .load 28 (.tmp t)) {b : Nat} {x : Ent} (hp : a.eval (.tmp t) = .pointer (some ⟨b, 0, none⟩)) (hx : x.ok) (hc : ∀ w, C w → at28 w b x)
    (h : K (a.put op.dst (.agg x.cells))) : op.quiet Trym.prog a C K :=
  ⟨_, fun w hw => by
    unfold Oper.quietAt execOp
    simp only [ho, hp, Instr.loadAt, Instr.sureAddr, Sem.run_bind, Sem.run_pure, Result.andThen_ok, run_loadVar_row w b 28 28 x.cells (0, 0) _ (hc w hw) Trym.underlying28 rfl (by rw [Ent.cells_size hx]; exact Trym.info28)]
    exact ⟨rfl, rfl⟩, h⟩

theorem agg2 : ∀ w, (isAgg 2).run Trym.prog w = .ok false w := fun _ => by kernel_rfl
theorem agg26 : ∀ w, (isAgg 26).run Trym.prog w = .ok false w := fun _ => by kernel_rfl
theorem agg3 : ∀ w, (isAgg 3).run Trym.prog w = .ok false w := fun _ => by kernel_rfl
theorem agg5 : ∀ w, (isAgg 5).run Trym.prog w = .ok false w := fun _ => by kernel_rfl
theorem agg4 : ∀ w, (isAgg 4).run Trym.prog w = .ok false w := fun _ => by kernel_rfl
theorem one2 : (Trym.prog.info? 2).map (·.size) = some 1 := by kernel_rfl
theorem one26 : (Trym.prog.info? 26).map (·.size) = some 1 := by kernel_rfl
theorem one3 : (Trym.prog.info? 3).map (·.size) = some 1 := by kernel_rfl
theorem one5 : (Trym.prog.info? 5).map (·.size) = some 1 := by kernel_rfl
theorem one4 : (Trym.prog.info? 4).map (·.size) = some 1 := by kernel_rfl

end Go.Proofs.Qxb6604713aMods.Entry
