/-
  A PROOF OF 'Rows.FnSameRecordIsPartialEquivalenceSaid': the walk, then the row (after the guide's template).
-/
import Derived.Test.Qxb6604713aModsSame
import Derived.OpenShut
import Derived.ShutString
import Derived.ChangeOld
import Derived.Below
namespace Go.Proofs.Qxb6604713aMods.fnSameRecordIsPartialEquivalence
open Go.ChangeShapes Go.WideShapes Go.ChangeAt Go.RowKit Entry
set_option linter.unusedVariables false

theorem own : ownKnob Trym.prog.godebug = none := by kernel_rfl
theorem laidOut : laidOutB Trym.prog = true := by kernel_rfl

theorem blk_old (w : World) (o : Obj) (i : Nat) (h : i < w.heap.size) : (w.alloc o).heap[i]? = w.heap[i]? := by
  show (w.heap.push o)[i]? = w.heap[i]?
  rw [Array.getElem?_push, if_neg (Nat.ne_of_lt h)]

/-- What the law's tests read: the answers ab, bc, ac, and what follows from them. -/
structure Tests (x y z : Ent) (ab bc ac : Bool) : Prop where
  hab : same x y = ab
  hbc : same y z = bc
  hac : same x z = ac

set_option maxHeartbeats 1600000 in
theorem eq_walk (x y z : Ent) (hx : x.ok) (hy : y.ok) (hz : z.ok) (w : World) (ab bc ac : Bool) (ht : Tests x y z ab bc ac) :
    Calls Trym.prog 5 #[.agg x.cells, .agg y.cells, .agg z.cells] w fun e w' => e = .returned (.bool true) ∧ Below w.heap.size w w' := by
  have HX := hide hx
  have HY := hide hy
  have HZ := hide hz
  have Cxx := fun w => zzsame_any x x hx hx w
  have Cyy := fun w => zzsame_any y y hy hy w
  have Czz := fun w => zzsame_any z z hz hz w
  have Cxy := fun w => zzsame_any x y hx hy w
  have Cyx := fun w => zzsame_any y x hy hx w
  have Cyz := fun w => zzsame_any y z hy hz w
  have Cxz := fun w => zzsame_any x z hx hz w
  rw [same_self] at Cxx Cyy Czz
  rw [same_comm, ht.hab] at Cyx
  rw [ht.hab] at Cxy
  rw [ht.hbc] at Cyz
  rw [ht.hac] at Cxz
  have Cxx := hide Cxx
  have Cyy := hide Cyy
  have Czz := hide Czz
  have Cxy := hide Cxy
  have Cyx := hide Cyx
  have Cyz := hide Cyz
  have Cxz := hide Cxz
  have Cx := hide (sound_below x hx)
  have Cy := hide (sound_below y hy)
  have Cz := hide (sound_below z hz)
  have f1 : ab = true → sound x = true ∧ sound y = true ∧ (x.off != y.off) = false ∧ (x.span != y.span) = false := fun h => by
    have e := ht.hab; rw [h] at e; have s := same_sound e; rw [same_iff] at e
    exact ⟨s.1, s.2, by simp [e.2.2.2.1], by simp [e.2.2.2.2]⟩
  have f2 : bc = true → (y.off != z.off) = false ∧ (y.span != z.span) = false := fun h => by
    have e := ht.hbc; rw [h, same_iff] at e
    exact ⟨by simp [e.2.2.2.1], by simp [e.2.2.2.2]⟩
  have f3 : ab = true → bc = true → ac = true := fun h k => by
    have e := ht.hab; have e' := ht.hbc; rw [h] at e; rw [k] at e'; rw [← ht.hac]; exact same_trans e e'
  have F1 := hide f1
  have F2 := hide f2
  have F3 := hide f3
  clear hx hy hz ht f1 f2 f3
  go_enter Trym.func5, Trym.ntmps5
  have hA : at28 (((w.alloc (.cells x.cells 28)).alloc (.cells y.cells 28)).alloc (.cells z.cells 28)) w.heap.size x := by
    unfold at28
    rw [blk_old _ _ _ (by simp; omega)]
    exact heap_alloc2_old _ _ _
  have hB : at28 (((w.alloc (.cells x.cells 28)).alloc (.cells y.cells 28)).alloc (.cells z.cells 28)) (w.heap.size + 1) y := by
    unfold at28
    rw [blk_old _ _ _ (by simp)]
    exact heap_alloc2_new _ _ _
  have hC : at28 (((w.alloc (.cells x.cells 28)).alloc (.cells y.cells 28)).alloc (.cells z.cells 28)) (w.heap.size + 1 + 1) z := by
    have h := heap_alloc2_new (w.alloc (.cells x.cells 28)) (.cells y.cells 28) (.cells z.cells 28)
    rw [World.size_alloc] at h
    exact h
  have hW : Below w.heap.size w (((w.alloc (.cells x.cells 28)).alloc (.cells y.cells 28)).alloc (.cells z.cells 28)) :=
    (((Below.refl _ _).alloc (Nat.le_refl _) _).alloc (by simp) _).alloc (by simp; omega) _
  go_wp2_with (first
    | (refine wpList_load28 rfl 3 rfl rfl (unhide HX) (by assumption) ?_)
    | (refine wpList_load28 rfl 4 rfl rfl (unhide HY) (by assumption) ?_)
    | (refine wpList_load28 rfl 5 rfl rfl (unhide HZ) (by assumption) ?_)
    | (refine wpList_load28g 4 rfl rfl rfl (unhide HY) (by assumption) ?_)
    | (refine wpList_load28g 5 rfl rfl rfl (unhide HZ) (by assumption) ?_)
    | fail)
  refine (unhide Cxx _).mono ?_
  rintro e v ⟨rfl, hb⟩
  replace hA := hA.below hb
  replace hB := hB.below hb
  replace hC := hC.below hb
  replace hW := hW.trans (hb.mono hW.size)
  clear hb
  go_wp2_with (first
    | (refine wpList_load28 rfl 3 rfl rfl (unhide HX) (by assumption) ?_)
    | (refine wpList_load28 rfl 4 rfl rfl (unhide HY) (by assumption) ?_)
    | (refine wpList_load28 rfl 5 rfl rfl (unhide HZ) (by assumption) ?_)
    | (refine wpList_load28g 4 rfl rfl rfl (unhide HY) (by assumption) ?_)
    | (refine wpList_load28g 5 rfl rfl rfl (unhide HZ) (by assumption) ?_)
    | fail)
  refine (unhide Cyy _).mono ?_
  rintro e v ⟨rfl, hb⟩
  replace hA := hA.below hb
  replace hB := hB.below hb
  replace hC := hC.below hb
  replace hW := hW.trans (hb.mono hW.size)
  clear hb
  go_wp2_with (first
    | (refine wpList_load28 rfl 3 rfl rfl (unhide HX) (by assumption) ?_)
    | (refine wpList_load28 rfl 4 rfl rfl (unhide HY) (by assumption) ?_)
    | (refine wpList_load28 rfl 5 rfl rfl (unhide HZ) (by assumption) ?_)
    | (refine wpList_load28g 4 rfl rfl rfl (unhide HY) (by assumption) ?_)
    | (refine wpList_load28g 5 rfl rfl rfl (unhide HZ) (by assumption) ?_)
    | fail)
  refine (unhide Czz _).mono ?_
  rintro e v ⟨rfl, hb⟩
  replace hA := hA.below hb
  replace hB := hB.below hb
  replace hC := hC.below hb
  replace hW := hW.trans (hb.mono hW.size)
  clear hb
  go_wp2_with (first
    | (refine wpList_load28 rfl 3 rfl rfl (unhide HX) (by assumption) ?_)
    | (refine wpList_load28 rfl 4 rfl rfl (unhide HY) (by assumption) ?_)
    | (refine wpList_load28 rfl 5 rfl rfl (unhide HZ) (by assumption) ?_)
    | (refine wpList_load28g 4 rfl rfl rfl (unhide HY) (by assumption) ?_)
    | (refine wpList_load28g 5 rfl rfl rfl (unhide HZ) (by assumption) ?_)
    | fail)
  refine (unhide Cx _).mono ?_
  rintro e v ⟨rfl, hb⟩
  replace hA := hA.below hb
  replace hB := hB.below hb
  replace hC := hC.below hb
  replace hW := hW.trans (hb.mono hW.size)
  clear hb
  go_wp2_with (first
    | (refine wpList_load28 rfl 3 rfl rfl (unhide HX) (by assumption) ?_)
    | (refine wpList_load28 rfl 4 rfl rfl (unhide HY) (by assumption) ?_)
    | (refine wpList_load28 rfl 5 rfl rfl (unhide HZ) (by assumption) ?_)
    | (refine wpList_load28g 4 rfl rfl rfl (unhide HY) (by assumption) ?_)
    | (refine wpList_load28g 5 rfl rfl rfl (unhide HZ) (by assumption) ?_)
    | fail)
  refine (unhide Cy _).mono ?_
  rintro e v ⟨rfl, hb⟩
  replace hA := hA.below hb
  replace hB := hB.below hb
  replace hC := hC.below hb
  replace hW := hW.trans (hb.mono hW.size)
  clear hb
  go_wp2_with (first
    | (refine wpList_load28 rfl 3 rfl rfl (unhide HX) (by assumption) ?_)
    | (refine wpList_load28 rfl 4 rfl rfl (unhide HY) (by assumption) ?_)
    | (refine wpList_load28 rfl 5 rfl rfl (unhide HZ) (by assumption) ?_)
    | (refine wpList_load28g 4 rfl rfl rfl (unhide HY) (by assumption) ?_)
    | (refine wpList_load28g 5 rfl rfl rfl (unhide HZ) (by assumption) ?_)
    | fail)
  refine (unhide Cz _).mono ?_
  rintro e v ⟨rfl, hb⟩
  replace hA := hA.below hb
  replace hB := hB.below hb
  replace hC := hC.below hb
  replace hW := hW.trans (hb.mono hW.size)
  clear hb
  go_wp2_with (first
    | (refine wpList_load28 rfl 3 rfl rfl (unhide HX) (by assumption) ?_)
    | (refine wpList_load28 rfl 4 rfl rfl (unhide HY) (by assumption) ?_)
    | (refine wpList_load28 rfl 5 rfl rfl (unhide HZ) (by assumption) ?_)
    | (refine wpList_load28g 4 rfl rfl rfl (unhide HY) (by assumption) ?_)
    | (refine wpList_load28g 5 rfl rfl rfl (unhide HZ) (by assumption) ?_)
    | fail)
  refine (unhide Cxy _).mono ?_
  rintro e v ⟨rfl, hb⟩
  replace hA := hA.below hb
  replace hB := hB.below hb
  replace hC := hC.below hb
  replace hW := hW.trans (hb.mono hW.size)
  clear hb
  go_wp2_with (first
    | (refine wpList_load28 rfl 3 rfl rfl (unhide HX) (by assumption) ?_)
    | (refine wpList_load28 rfl 4 rfl rfl (unhide HY) (by assumption) ?_)
    | (refine wpList_load28 rfl 5 rfl rfl (unhide HZ) (by assumption) ?_)
    | (refine wpList_load28g 4 rfl rfl rfl (unhide HY) (by assumption) ?_)
    | (refine wpList_load28g 5 rfl rfl rfl (unhide HZ) (by assumption) ?_)
    | fail)
  refine (unhide Cyx _).mono ?_
  rintro e v ⟨rfl, hb⟩
  replace hA := hA.below hb
  replace hB := hB.below hb
  replace hC := hC.below hb
  replace hW := hW.trans (hb.mono hW.size)
  clear hb
  go_wp2_with (first
    | (refine wpList_load28 rfl 3 rfl rfl (unhide HX) (by assumption) ?_)
    | (refine wpList_load28 rfl 4 rfl rfl (unhide HY) (by assumption) ?_)
    | (refine wpList_load28 rfl 5 rfl rfl (unhide HZ) (by assumption) ?_)
    | (refine wpList_load28g 4 rfl rfl rfl (unhide HY) (by assumption) ?_)
    | (refine wpList_load28g 5 rfl rfl rfl (unhide HZ) (by assumption) ?_)
    | fail)
  refine (unhide Cyz _).mono ?_
  rintro e v ⟨rfl, hb⟩
  replace hA := hA.below hb
  replace hB := hB.below hb
  replace hC := hC.below hb
  replace hW := hW.trans (hb.mono hW.size)
  clear hb
  go_wp2_with (first
    | (refine wpList_load28 rfl 3 rfl rfl (unhide HX) (by assumption) ?_)
    | (refine wpList_load28 rfl 4 rfl rfl (unhide HY) (by assumption) ?_)
    | (refine wpList_load28 rfl 5 rfl rfl (unhide HZ) (by assumption) ?_)
    | (refine wpList_load28g 4 rfl rfl rfl (unhide HY) (by assumption) ?_)
    | (refine wpList_load28g 5 rfl rfl rfl (unhide HZ) (by assumption) ?_)
    | fail)
  refine (unhide Cxz _).mono ?_
  rintro e v ⟨rfl, hb⟩
  replace hA := hA.below hb
  replace hB := hB.below hb
  replace hC := hC.below hb
  replace hW := hW.trans (hb.mono hW.size)
  clear hb
  have a32 := hA.cell 32 (Ent.c32 (unhide HX))
  have a33 := hA.cell 33 (Ent.c33 (unhide HX))
  have b32 := hB.cell 32 (Ent.c32 (unhide HY))
  have b33 := hB.cell 33 (Ent.c33 (unhide HY))
  have c32 := hC.cell 32 (Ent.c32 (unhide HZ))
  have c33 := hC.cell 33 (Ent.c33 (unhide HZ))
  have HW := hide hW
  clear hA hB hC hW
  cases ab
  · cases bc
    · go_wp2
      go_ret
      exact ⟨rfl, HW.out⟩
    · obtain ⟨t1, t2⟩ := unhide F2 rfl
      go_wp2
      go_ret
      exact ⟨rfl, HW.out⟩
  · obtain ⟨s1, s2, u1, u2⟩ := unhide F1 rfl
    cases bc
    · go_wp2
      go_ret
      exact ⟨rfl, HW.out⟩
    · obtain ⟨t1, t2⟩ := unhide F2 rfl
      obtain rfl := unhide F3 rfl rfl
      go_wp2
      go_ret
      exact ⟨rfl, HW.out⟩


set_option maxRecDepth 100000 in
theorem lifted (os : Os) (started : os.Started) (H : Type) (enc : TypeId × Value → H) :
    ReturnsInHanded {} Trym.checked os 5 .any (Rows.fnSameRecordIsPartialEquivalenceSpec.pre6 enc Trym.prog Trym.f5 Rows.fnSameRecordIsPartialEquivalenceRow.domain false) (Rows.fnSameRecordIsPartialEquivalenceSpec.post enc Trym.prog Trym.f5 false true false false) := by
  refine returnsInHanded_of_change (C := Trym.checked) own started (by kernel_rfl) Trym.func5
    (ChangeSpec.witness6 (enc := enc) (C := Trym.checked) false ⟨#[], #[.agg #[.int .u8 0, .int .u8 0, .int .u8 0, .int .u8 0, .int .u8 0, .int .u8 0, .int .u8 0, .int .u8 0, .int .u8 0, .int .u8 0, .int .u8 0, .int .u8 0, .int .u8 0, .int .u8 0, .int .u8 0, .int .u8 0, .int .u8 0, .int .u8 0, .int .u8 0, .int .u8 0, .int .u8 0, .int .u8 0, .int .u8 0, .int .u8 0, .int .u8 0, .int .u8 0, .int .u8 0, .int .u8 0, .int .u8 0, .int .u8 0, .int .u8 0, .int .u8 0, .int .i64 0, .int .u32 0, .int .u32 0, .int .i64 0, .int .u8 0, .bool false, .int .i64 0, .bool false, .bool false, .int .i64 0], .agg #[.int .u8 0, .int .u8 0, .int .u8 0, .int .u8 0, .int .u8 0, .int .u8 0, .int .u8 0, .int .u8 0, .int .u8 0, .int .u8 0, .int .u8 0, .int .u8 0, .int .u8 0, .int .u8 0, .int .u8 0, .int .u8 0, .int .u8 0, .int .u8 0, .int .u8 0, .int .u8 0, .int .u8 0, .int .u8 0, .int .u8 0, .int .u8 0, .int .u8 0, .int .u8 0, .int .u8 0, .int .u8 0, .int .u8 0, .int .u8 0, .int .u8 0, .int .u8 0, .int .i64 0, .int .u32 0, .int .u32 0, .int .i64 0, .int .u8 0, .bool false, .int .i64 0, .bool false, .bool false, .int .i64 0], .agg #[.int .u8 0, .int .u8 0, .int .u8 0, .int .u8 0, .int .u8 0, .int .u8 0, .int .u8 0, .int .u8 0, .int .u8 0, .int .u8 0, .int .u8 0, .int .u8 0, .int .u8 0, .int .u8 0, .int .u8 0, .int .u8 0, .int .u8 0, .int .u8 0, .int .u8 0, .int .u8 0, .int .u8 0, .int .u8 0, .int .u8 0, .int .u8 0, .int .u8 0, .int .u8 0, .int .u8 0, .int .u8 0, .int .u8 0, .int .u8 0, .int .u8 0, .int .u8 0, .int .i64 0, .int .u32 0, .int .u32 0, .int .i64 0, .int .u8 0, .bool false, .int .i64 0, .bool false, .bool false, .int .i64 0]], []⟩ 8 (by kernel_rfl) (by kernel_rfl) (by kernel_rfl) (by kernel_rfl)) ?_
  intro W base args ds gs before hval0 hW hcnd _
  have hval : ∀ (j : Nat) t v, Trym.f5.params[j]? = some t → args[j]? = some v → Value.okWide Trym.prog W .any base t v := hval0
  have hW' := hW
  obtain ⟨p, q, hA0, hV, rfl, hfz, hnd⟩ := hW
  have hA : DataW.TrodAll enc Trym.prog W 0 (fun _ => true) true Trym.f5.params.toList args.toList ds p := hA0
  rw [Trym.params5] at hA hval
  obtain ⟨v0, vs0, d0, ds0, p0, q0, hargs, rfl, rfl, h0, r0⟩ := trodAll_cons hA
  obtain ⟨v1, vs1, d1, ds1, p1, q1, rfl, rfl, rfl, h1, r1⟩ := trodAll_cons r0
  obtain ⟨v2, vs2, d2, ds2, p2, q2, rfl, rfl, rfl, h2, r2⟩ := trodAll_cons r1
  obtain ⟨rfl, rfl, rfl⟩ := trodAll_nil r2
  obtain rfl : args = #[v0, v1, v2] := by cases args; simp_all
  obtain ⟨rfl, rfl⟩ := trodVars_none hV
  have lt0 : ∀ x ∈ p0, x.block < W.heap.size := by obtain ⟨m, hm⟩ := h0; exact DataW.trod_lt m _ _ _ hm
  obtain ⟨x0, ok0, rfl⟩ := open_ent (hval 0 28 v0 rfl rfl)
  have lt1 : ∀ x ∈ p1, x.block < W.heap.size := by obtain ⟨m, hm⟩ := h1; exact DataW.trod_lt m _ _ _ hm
  obtain ⟨x1, ok1, rfl⟩ := open_ent (hval 1 28 v1 rfl rfl)
  have lt2 : ∀ x ∈ p2, x.block < W.heap.size := by obtain ⟨m, hm⟩ := h2; exact DataW.trod_lt m _ _ _ hm
  obtain ⟨x2, ok2, rfl⟩ := open_ent (hval 2 28 v2 rfl rfl)
  clear hA0 hval0
  refine (eq_walk x0 x1 x2 ok0 ok1 ok2 W _ _ _ ⟨rfl, rfl, rfl⟩).mono fun e W' ⟨he, bel⟩ => ?_
  subst he
  exact ⟨_, rfl, _, _, _, [], _, [], hW', trodAll_mk1 (shut_bool Trym.underlying4 _), (trodAll_cons_mk (Below.trod laidOut (by kernel_rfl) (of_decide_eq_true (by kernel_rfl)) h0 bel lt0) (trodAll_cons_mk (Below.trod laidOut (by kernel_rfl) (of_decide_eq_true (by kernel_rfl)) h1 bel lt1) (trodAll_cons_mk (Below.trod laidOut (by kernel_rfl) (of_decide_eq_true (by kernel_rfl)) h2 bel lt2) trodAll_mk0))), rfl, bel.frame _, fun h => by cases h⟩

theorem over : Rows.fnSameRecordIsPartialEquivalenceRow.holds Trym.pinned (OpenSpec.ofChange Rows.fnSameRecordIsPartialEquivalenceSpec) :=
  OpenClaim.holds_of_wide 5 Trym.f5 rfl rfl rfl rfl rfl rfl rfl ⟨rfl, rfl, rfl, rfl, rfl⟩ rfl rfl rfl rfl rfl (by kernel_rfl) Trym.func5 (by kernel_rfl)
    (of_decide_eq_true (by kernel_rfl)) (by unfold Func.isWrapper; first | (rw [if_pos (by decide +kernel)]; kernel_rfl) | (rw [if_neg (by decide +kernel)]; exact ⟨rfl, rfl⟩))
    (fun os started H enc _ => lifted os started H enc)

/-- ████ THE STATEMENT ████ -/
theorem proved : Rows.FnSameRecordIsPartialEquivalenceSaid := over
#print axioms proved
end Go.Proofs.Qxb6604713aMods.fnSameRecordIsPartialEquivalence
