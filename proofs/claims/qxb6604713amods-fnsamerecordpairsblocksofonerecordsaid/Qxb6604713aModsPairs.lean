/-
  SEAT b6604713aM: the walk of FnSameRecordPairsBlocksOfOneRecord.
-/
import Derived.Test.Qxb6604713aModsStores
import Derived.Deep.CutRange
namespace Go.Proofs.Qxb6604713aMods.Entry
open Go.ChangeShapes Go.WideShapes Go.ChangeAt Go.RowKit Go.Sort

def takes (x y : Ent) : Ent := { y with off := x.off, span := x.span }
def blockOf (x y : Ent) : Ent := { x with sc := y.sc, size := y.size, nth := y.nth, kind := y.kind, named := y.named, ver := y.ver, unr := y.unr, fwd := y.fwd }

set_option maxHeartbeats 1600000 in
theorem pb_walk (x y : Ent) (hx : x.ok) (hy : y.ok) (w : World) (want : Bool) (hs1 : same x (takes x y) = want)
    (hcase : (¬ 0 ≤ x.pos ∧ want = false) ∨ (0 ≤ x.pos ∧ ¬ 0 ≤ y.pos ∧ want = false) ∨ (0 ≤ x.pos ∧ 0 ≤ y.pos ∧ ¬ 0 ≤ x.off ∧ want = false) ∨ (0 ≤ x.pos ∧ 0 ≤ y.pos ∧ 0 ≤ x.off ∧ want = true)) :
    Calls Trym.prog 6 #[.agg x.cells, .agg y.cells] w fun e w' => e = .returned (.bool true) ∧ Below w.heap.size w w' := by
  have HX := hide hx
  have HY := hide hy
  have HC1 : Hid (Ent.ok { y with off := x.off }) := hy
  have HC : Hid (Ent.ok { y with off := x.off, span := x.span }) := hy
  have HD0 : Hid (Ent.ok { x with sc := y.sc }) := hy
  have HE0 : Hid (Ent.ok { y with sc := x.sc }) := hx
  have HD1 : Hid (Ent.ok { x with sc := y.sc, size := y.size }) := hy
  have HE1 : Hid (Ent.ok { y with sc := x.sc, size := x.size }) := hx
  have HD2 : Hid (Ent.ok { x with sc := y.sc, size := y.size, nth := y.nth }) := hy
  have HE2 : Hid (Ent.ok { y with sc := x.sc, size := x.size, nth := x.nth }) := hx
  have HD3 : Hid (Ent.ok { x with sc := y.sc, size := y.size, nth := y.nth, kind := y.kind }) := hy
  have HE3 : Hid (Ent.ok { y with sc := x.sc, size := x.size, nth := x.nth, kind := x.kind }) := hx
  have HD4 : Hid (Ent.ok { x with sc := y.sc, size := y.size, nth := y.nth, kind := y.kind, named := y.named }) := hy
  have HE4 : Hid (Ent.ok { y with sc := x.sc, size := x.size, nth := x.nth, kind := x.kind, named := x.named }) := hx
  have HD5 : Hid (Ent.ok { x with sc := y.sc, size := y.size, nth := y.nth, kind := y.kind, named := y.named, ver := y.ver }) := hy
  have HE5 : Hid (Ent.ok { y with sc := x.sc, size := x.size, nth := x.nth, kind := x.kind, named := x.named, ver := x.ver }) := hx
  have HD6 : Hid (Ent.ok { x with sc := y.sc, size := y.size, nth := y.nth, kind := y.kind, named := y.named, ver := y.ver, unr := y.unr }) := hy
  have HE6 : Hid (Ent.ok { y with sc := x.sc, size := x.size, nth := x.nth, kind := x.kind, named := x.named, ver := x.ver, unr := x.unr }) := hx
  have HD : Hid (Ent.ok (blockOf x y)) := hy
  have HE : Hid (Ent.ok (blockOf y x)) := hx
  have Cxc := fun w => zzsame_any x (takes x y) hx hy w
  have Ccx := fun w => zzsame_any (takes x y) x hy hx w
  rw [same_comm, hs1] at Ccx
  rw [hs1] at Cxc
  have Cde := fun w => zzsame_any (blockOf x y) (blockOf y x) hy hx w
  have Cxy := fun w => zzsame_any x y hx hy w
  rw [show same (blockOf x y) (blockOf y x) = same x y from rfl] at Cde
  generalize same x y = ans at Cde Cxy
  have Cde := hide Cde
  have Cxy := hide Cxy
  have Cxc := hide Cxc
  have Ccx := hide Ccx
  clear hx hy hs1
  go_enter Trym.func6, Trym.ntmps6
  have hA : at28 ((w.alloc (.cells x.cells 28)).alloc (.cells y.cells 28)) w.heap.size x := heap_alloc2_old _ _ _
  have hB : at28 ((w.alloc (.cells x.cells 28)).alloc (.cells y.cells 28)) (w.heap.size + 1) y := heap_alloc2_new _ _ _
  have hW : Below w.heap.size w ((w.alloc (.cells x.cells 28)).alloc (.cells y.cells 28)) := ((Below.refl _ _).alloc (Nat.le_refl _) _).alloc (by simp) _
  go_upto_region 2 with (first
    | (refine wpList_load28 rfl 3 rfl rfl (unhide HY) hB ?_; go_frame)
    | (refine wpList_alloc28 rfl rfl 5 rfl ?_; intro v' g2 old g2sz g2new g2old hg; have g2lt : w.heap.size + 1 < g2 := (by have := hB.lt; omega); clear g2sz; replace hA := hA.kept hg (by omega); replace hB := hB.kept hg (by omega); replace hW := hW.grown hg hW.size (by intro k hk; cases hk; omega); clear hg; go_frame)
    | (refine wpList_store28 rfl 5 9 rfl rfl rfl (unhide HY) g2new g2old ?_; intro v' hC hg; replace hA := hA.kept hg (by omega); replace hB := hB.kept hg (by omega); replace hW := hW.grown hg hW.size (by intro k hk; cases hk; omega); clear hg g2new g2old; go_frame)
    | fail)
  go_upto_region 3 with (first
    | (refine wpList_load_f 2 agg2 10 rfl rfl rfl hA (Ent.c32 (unhide HX)) ?_; go_frame)
    | (refine wpList_store_f (x := y) (x' := { y with off := x.off }) rfl 2 12 11 rfl rfl rfl rfl rfl one2 (by omega) (unhide HY) hC (Ent.set_off (unhide HY) _) ?_; intro v' hC hg; replace hA := hA.kept hg (by omega); replace hB := hB.kept hg (by omega); replace hW := hW.grown hg hW.size (by intro k hk; cases hk; omega); clear hg; go_frame)
    | fail)
  go_upto_region 4 with (first
    | (refine wpList_load_f 26 agg26 13 rfl rfl rfl hA (Ent.c33 (unhide HX)) ?_; go_frame)
    | (refine wpList_store_f (x := { y with off := x.off }) (x' := { y with off := x.off, span := x.span }) rfl 26 15 14 rfl rfl rfl rfl rfl one26 (by omega) (unhide HC1) hC (Ent.set_span (unhide HC1) _) ?_; intro v' hC hg; replace hA := hA.kept hg (by omega); replace hB := hB.kept hg (by omega); replace hW := hW.grown hg hW.size (by intro k hk; cases hk; omega); clear hg; go_frame)
    | fail)
  go_cut [6] from 16 to 28 (fun s wx => s = .bool want ∧ wx = v')
  case first =>
    rcases hcase with ⟨k1, rfl⟩ | ⟨k1, k2, rfl⟩ | ⟨k1, k2, k3, rfl⟩ | ⟨k1, k2, k3, rfl⟩
    all_goals
      go_wp2_with (first
        | (refine wpList_load_f 2 agg2 16 rfl rfl rfl hA (Ent.c38 (unhide HX)) ?_; go_frame)
        | (refine wpList_load_f 2 agg2 20 rfl rfl rfl hB (Ent.c38 (unhide HY)) ?_; go_frame)
        | (refine wpList_load_f 2 agg2 25 rfl rfl rfl hA (Ent.c32 (unhide HX)) ?_; go_frame)
        | fail)
      go_meet
      exact ⟨rfl, rfl⟩
  case rest =>
  obtain ⟨rfl, rfl⟩ := hcut
  clear hcase
  go_wp2_with (first
    | (refine wpList_load28 rfl 2 rfl rfl (unhide HX) hA ?_; go_frame)
    | (refine wpList_load28 rfl 5 rfl rfl (unhide HC) hC ?_; go_frame)
    | fail)
  refine (unhide Cxc _).mono ?_
  rintro e v ⟨rfl, hb⟩
  replace hA := hA.below hb
  replace hB := hB.below hb
  replace hC := hC.below hb
  replace hW := hW.trans (hb.mono hW.size)
  clear hb
  go_wp2_with (first
    | (refine wpList_load28g 5 rfl rfl rfl (unhide HC) hC ?_; go_frame)
    | (refine wpList_load28g 2 rfl rfl rfl (unhide HX) hA ?_; go_frame)
    | fail)
  refine (unhide Ccx _).mono ?_
  rintro e v ⟨rfl, hb⟩
  replace hA := hA.below hb
  replace hB := hB.below hb
  replace hC := hC.below hb
  replace hW := hW.trans (hb.mono hW.size)
  clear hb
  go_upto_region 8 with (first
    | (refine wpList_load28 rfl 2 rfl rfl (unhide HX) hA ?_; go_frame)
    | (refine wpList_alloc28 rfl rfl 7 rfl ?_; intro v' g3 old g3sz g3new g3old hg; have g3lt : w.heap.size + 1 < g3 := (by have := hB.lt; omega); have g3lt2 : g2 < g3 := (by have := hC.lt; omega); clear g3sz; replace hA := hA.kept hg (by omega); replace hB := hB.kept hg (by omega); replace hC := hC.kept hg (by omega); replace hW := hW.grown hg hW.size (by intro k hk; cases hk; omega); clear hg; go_frame)
    | (refine wpList_store28 rfl 7 41 rfl rfl rfl (unhide HX) g3new g3old ?_; intro v' hD hg; replace hA := hA.kept hg (by omega); replace hB := hB.kept hg (by omega); replace hC := hC.kept hg (by omega); replace hW := hW.grown hg hW.size (by intro k hk; cases hk; omega); clear hg g3new g3old; go_frame)
    | fail)
  go_upto_region 9 with (first
    | (refine wpList_load_sc rfl 42 rfl rfl (unhide HY) hB ?_; go_frame)
    | (refine wpList_store_sc (x := x) (y := y) rfl 44 43 rfl rfl rfl (unhide HX) (unhide HY) hD ?_; intro v' hD hg; replace hA := hA.kept hg (by omega); replace hB := hB.kept hg (by omega); replace hC := hC.kept hg (by omega); replace hW := hW.grown hg hW.size (by intro k hk; cases hk; omega); replace hD : at28 _ _ { x with sc := y.sc } := hD; clear hg; go_frame)
    | fail)
  go_upto_region 10 with (first
    | (refine wpList_load_f 26 agg26 45 rfl rfl rfl hB (Ent.c34 (unhide HY)) ?_; go_frame)
    | (refine wpList_store_f (x := { x with sc := y.sc }) (x' := { x with sc := y.sc, size := y.size }) rfl 26 47 46 rfl rfl rfl rfl rfl one26 (by omega) (unhide HD0) hD (Ent.set_size (unhide HD0) _) ?_; intro v' hD hg; replace hA := hA.kept hg (by omega); replace hB := hB.kept hg (by omega); replace hC := hC.kept hg (by omega); replace hW := hW.grown hg hW.size (by intro k hk; cases hk; omega); clear hg; go_frame)
    | fail)
  go_upto_region 11 with (first
    | (refine wpList_load_f 3 agg3 48 rfl rfl rfl hB (Ent.c35 (unhide HY)) ?_; go_frame)
    | (refine wpList_store_f (x := { x with sc := y.sc, size := y.size }) (x' := { x with sc := y.sc, size := y.size, nth := y.nth }) rfl 3 50 49 rfl rfl rfl rfl rfl one3 (by omega) (unhide HD1) hD (Ent.set_nth (unhide HD1) _) ?_; intro v' hD hg; replace hA := hA.kept hg (by omega); replace hB := hB.kept hg (by omega); replace hC := hC.kept hg (by omega); replace hW := hW.grown hg hW.size (by intro k hk; cases hk; omega); clear hg; go_frame)
    | fail)
  go_upto_region 12 with (first
    | (refine wpList_load_f 5 agg5 51 rfl rfl rfl hB (Ent.c36 (unhide HY)) ?_; go_frame)
    | (refine wpList_store_f (x := { x with sc := y.sc, size := y.size, nth := y.nth }) (x' := { x with sc := y.sc, size := y.size, nth := y.nth, kind := y.kind }) rfl 5 53 52 rfl rfl rfl rfl rfl one5 (by omega) (unhide HD2) hD (Ent.set_kind (unhide HD2) _) ?_; intro v' hD hg; replace hA := hA.kept hg (by omega); replace hB := hB.kept hg (by omega); replace hC := hC.kept hg (by omega); replace hW := hW.grown hg hW.size (by intro k hk; cases hk; omega); clear hg; go_frame)
    | fail)
  go_upto_region 13 with (first
    | (refine wpList_load_f 4 agg4 54 rfl rfl rfl hB (Ent.c37 (unhide HY)) ?_; go_frame)
    | (refine wpList_store_f (x := { x with sc := y.sc, size := y.size, nth := y.nth, kind := y.kind }) (x' := { x with sc := y.sc, size := y.size, nth := y.nth, kind := y.kind, named := y.named }) rfl 4 56 55 rfl rfl rfl rfl rfl one4 (by omega) (unhide HD3) hD (Ent.set_named (unhide HD3) _) ?_; intro v' hD hg; replace hA := hA.kept hg (by omega); replace hB := hB.kept hg (by omega); replace hC := hC.kept hg (by omega); replace hW := hW.grown hg hW.size (by intro k hk; cases hk; omega); clear hg; go_frame)
    | fail)
  go_upto_region 14 with (first
    | (refine wpList_load_f 4 agg4 57 rfl rfl rfl hB (Ent.c39 (unhide HY)) ?_; go_frame)
    | (refine wpList_store_f (x := { x with sc := y.sc, size := y.size, nth := y.nth, kind := y.kind, named := y.named }) (x' := { x with sc := y.sc, size := y.size, nth := y.nth, kind := y.kind, named := y.named, ver := y.ver }) rfl 4 59 58 rfl rfl rfl rfl rfl one4 (by omega) (unhide HD4) hD (Ent.set_ver (unhide HD4) _) ?_; intro v' hD hg; replace hA := hA.kept hg (by omega); replace hB := hB.kept hg (by omega); replace hC := hC.kept hg (by omega); replace hW := hW.grown hg hW.size (by intro k hk; cases hk; omega); clear hg; go_frame)
    | fail)
  go_upto_region 15 with (first
    | (refine wpList_load_f 4 agg4 60 rfl rfl rfl hB (Ent.c40 (unhide HY)) ?_; go_frame)
    | (refine wpList_store_f (x := { x with sc := y.sc, size := y.size, nth := y.nth, kind := y.kind, named := y.named, ver := y.ver }) (x' := { x with sc := y.sc, size := y.size, nth := y.nth, kind := y.kind, named := y.named, ver := y.ver, unr := y.unr }) rfl 4 62 61 rfl rfl rfl rfl rfl one4 (by omega) (unhide HD5) hD (Ent.set_unr (unhide HD5) _) ?_; intro v' hD hg; replace hA := hA.kept hg (by omega); replace hB := hB.kept hg (by omega); replace hC := hC.kept hg (by omega); replace hW := hW.grown hg hW.size (by intro k hk; cases hk; omega); clear hg; go_frame)
    | fail)
  go_upto_region 16 with (first
    | (refine wpList_load_f 2 agg2 63 rfl rfl rfl hB (Ent.c41 (unhide HY)) ?_; go_frame)
    | (refine wpList_store_f (x := { x with sc := y.sc, size := y.size, nth := y.nth, kind := y.kind, named := y.named, ver := y.ver, unr := y.unr }) (x' := { x with sc := y.sc, size := y.size, nth := y.nth, kind := y.kind, named := y.named, ver := y.ver, unr := y.unr, fwd := y.fwd }) rfl 2 65 64 rfl rfl rfl rfl rfl one2 (by omega) (unhide HD6) hD (Ent.set_fwd (unhide HD6) _) ?_; intro v' hD hg; replace hA := hA.kept hg (by omega); replace hB := hB.kept hg (by omega); replace hC := hC.kept hg (by omega); replace hW := hW.grown hg hW.size (by intro k hk; cases hk; omega); clear hg; go_frame)
    | fail)
  go_upto_region 17 with (first
    | (refine wpList_load28 rfl 3 rfl rfl (unhide HY) hB ?_; go_frame)
    | (refine wpList_alloc28 rfl rfl 8 rfl ?_; intro v' g4 old g4sz g4new g4old hg; have g4lt : w.heap.size + 1 < g4 := (by have := hB.lt; omega); have g4lt2 : g2 < g4 := (by have := hC.lt; omega); have g4lt3 : g3 < g4 := (by have := hD.lt; omega); clear g4sz; replace hA := hA.kept hg (by omega); replace hB := hB.kept hg (by omega); replace hC := hC.kept hg (by omega); replace hD := hD.kept hg (by omega); replace hW := hW.grown hg hW.size (by intro k hk; cases hk; omega); clear hg; go_frame)
    | (refine wpList_store28 rfl 8 66 rfl rfl rfl (unhide HY) g4new g4old ?_; intro v' hE hg; replace hA := hA.kept hg (by omega); replace hB := hB.kept hg (by omega); replace hC := hC.kept hg (by omega); replace hD := hD.kept hg (by omega); replace hW := hW.grown hg hW.size (by intro k hk; cases hk; omega); clear hg g4new g4old; go_frame)
    | fail)
  go_upto_region 18 with (first
    | (refine wpList_load_sc rfl 67 rfl rfl (unhide HX) hA ?_; go_frame)
    | (refine wpList_store_sc (x := y) (y := x) rfl 69 68 rfl rfl rfl (unhide HY) (unhide HX) hE ?_; intro v' hE hg; replace hA := hA.kept hg (by omega); replace hB := hB.kept hg (by omega); replace hC := hC.kept hg (by omega); replace hD := hD.kept hg (by omega); replace hW := hW.grown hg hW.size (by intro k hk; cases hk; omega); replace hE : at28 _ _ { y with sc := x.sc } := hE; clear hg; go_frame)
    | fail)
  go_upto_region 19 with (first
    | (refine wpList_load_f 26 agg26 70 rfl rfl rfl hA (Ent.c34 (unhide HX)) ?_; go_frame)
    | (refine wpList_store_f (x := { y with sc := x.sc }) (x' := { y with sc := x.sc, size := x.size }) rfl 26 72 71 rfl rfl rfl rfl rfl one26 (by omega) (unhide HE0) hE (Ent.set_size (unhide HE0) _) ?_; intro v' hE hg; replace hA := hA.kept hg (by omega); replace hB := hB.kept hg (by omega); replace hC := hC.kept hg (by omega); replace hD := hD.kept hg (by omega); replace hW := hW.grown hg hW.size (by intro k hk; cases hk; omega); clear hg; go_frame)
    | fail)
  go_upto_region 20 with (first
    | (refine wpList_load_f 3 agg3 73 rfl rfl rfl hA (Ent.c35 (unhide HX)) ?_; go_frame)
    | (refine wpList_store_f (x := { y with sc := x.sc, size := x.size }) (x' := { y with sc := x.sc, size := x.size, nth := x.nth }) rfl 3 75 74 rfl rfl rfl rfl rfl one3 (by omega) (unhide HE1) hE (Ent.set_nth (unhide HE1) _) ?_; intro v' hE hg; replace hA := hA.kept hg (by omega); replace hB := hB.kept hg (by omega); replace hC := hC.kept hg (by omega); replace hD := hD.kept hg (by omega); replace hW := hW.grown hg hW.size (by intro k hk; cases hk; omega); clear hg; go_frame)
    | fail)
  go_upto_region 21 with (first
    | (refine wpList_load_f 5 agg5 76 rfl rfl rfl hA (Ent.c36 (unhide HX)) ?_; go_frame)
    | (refine wpList_store_f (x := { y with sc := x.sc, size := x.size, nth := x.nth }) (x' := { y with sc := x.sc, size := x.size, nth := x.nth, kind := x.kind }) rfl 5 78 77 rfl rfl rfl rfl rfl one5 (by omega) (unhide HE2) hE (Ent.set_kind (unhide HE2) _) ?_; intro v' hE hg; replace hA := hA.kept hg (by omega); replace hB := hB.kept hg (by omega); replace hC := hC.kept hg (by omega); replace hD := hD.kept hg (by omega); replace hW := hW.grown hg hW.size (by intro k hk; cases hk; omega); clear hg; go_frame)
    | fail)
  go_upto_region 22 with (first
    | (refine wpList_load_f 4 agg4 79 rfl rfl rfl hA (Ent.c37 (unhide HX)) ?_; go_frame)
    | (refine wpList_store_f (x := { y with sc := x.sc, size := x.size, nth := x.nth, kind := x.kind }) (x' := { y with sc := x.sc, size := x.size, nth := x.nth, kind := x.kind, named := x.named }) rfl 4 81 80 rfl rfl rfl rfl rfl one4 (by omega) (unhide HE3) hE (Ent.set_named (unhide HE3) _) ?_; intro v' hE hg; replace hA := hA.kept hg (by omega); replace hB := hB.kept hg (by omega); replace hC := hC.kept hg (by omega); replace hD := hD.kept hg (by omega); replace hW := hW.grown hg hW.size (by intro k hk; cases hk; omega); clear hg; go_frame)
    | fail)
  go_upto_region 23 with (first
    | (refine wpList_load_f 4 agg4 82 rfl rfl rfl hA (Ent.c39 (unhide HX)) ?_; go_frame)
    | (refine wpList_store_f (x := { y with sc := x.sc, size := x.size, nth := x.nth, kind := x.kind, named := x.named }) (x' := { y with sc := x.sc, size := x.size, nth := x.nth, kind := x.kind, named := x.named, ver := x.ver }) rfl 4 84 83 rfl rfl rfl rfl rfl one4 (by omega) (unhide HE4) hE (Ent.set_ver (unhide HE4) _) ?_; intro v' hE hg; replace hA := hA.kept hg (by omega); replace hB := hB.kept hg (by omega); replace hC := hC.kept hg (by omega); replace hD := hD.kept hg (by omega); replace hW := hW.grown hg hW.size (by intro k hk; cases hk; omega); clear hg; go_frame)
    | fail)
  go_upto_region 24 with (first
    | (refine wpList_load_f 4 agg4 85 rfl rfl rfl hA (Ent.c40 (unhide HX)) ?_; go_frame)
    | (refine wpList_store_f (x := { y with sc := x.sc, size := x.size, nth := x.nth, kind := x.kind, named := x.named, ver := x.ver }) (x' := { y with sc := x.sc, size := x.size, nth := x.nth, kind := x.kind, named := x.named, ver := x.ver, unr := x.unr }) rfl 4 87 86 rfl rfl rfl rfl rfl one4 (by omega) (unhide HE5) hE (Ent.set_unr (unhide HE5) _) ?_; intro v' hE hg; replace hA := hA.kept hg (by omega); replace hB := hB.kept hg (by omega); replace hC := hC.kept hg (by omega); replace hD := hD.kept hg (by omega); replace hW := hW.grown hg hW.size (by intro k hk; cases hk; omega); clear hg; go_frame)
    | fail)
  go_upto_region 25 with (first
    | (refine wpList_load_f 2 agg2 88 rfl rfl rfl hA (Ent.c41 (unhide HX)) ?_; go_frame)
    | (refine wpList_store_f (x := { y with sc := x.sc, size := x.size, nth := x.nth, kind := x.kind, named := x.named, ver := x.ver, unr := x.unr }) (x' := { y with sc := x.sc, size := x.size, nth := x.nth, kind := x.kind, named := x.named, ver := x.ver, unr := x.unr, fwd := x.fwd }) rfl 2 90 89 rfl rfl rfl rfl rfl one2 (by omega) (unhide HE6) hE (Ent.set_fwd (unhide HE6) _) ?_; intro v' hE hg; replace hA := hA.kept hg (by omega); replace hB := hB.kept hg (by omega); replace hC := hC.kept hg (by omega); replace hD := hD.kept hg (by omega); replace hW := hW.grown hg hW.size (by intro k hk; cases hk; omega); clear hg; go_frame)
    | fail)
  obtain ⟨W, hWW⟩ : ∃ W, W = v' := ⟨_, rfl⟩
  subst hWW
  have QA : Hid (∀ w', (∃ p : Regrown, w' = grow (redrawn W p.d) p.os) → at28 w' w.heap.size x) := by
    rintro w' ⟨p, rfl⟩; exact hA.below (below_regrown W p.d p.os)
  have QB : Hid (∀ w', (∃ p : Regrown, w' = grow (redrawn W p.d) p.os) → at28 w' (w.heap.size + 1) y) := by
    rintro w' ⟨p, rfl⟩; exact hB.below (below_regrown W p.d p.os)
  have QD : Hid (∀ w', (∃ p : Regrown, w' = grow (redrawn W p.d) p.os) → at28 w' g3 (blockOf x y)) := by
    rintro w' ⟨p, rfl⟩; exact at28.below hD (below_regrown W p.d p.os)
  have QE : Hid (∀ w', (∃ p : Regrown, w' = grow (redrawn W p.d) p.os) → at28 w' g4 (blockOf y x)) := by
    rintro w' ⟨p, rfl⟩; exact at28.below hE (below_regrown W p.d p.os)
  have HW := hide hW
  clear hA hB hC hD hE hW
  refine wp_region_quiet_below (by kernel_rfl) (by kernel_rfl) ?_
  refine BigFrame.wpQuiet_want rfl (fun K hK => ?_)
  refine quiet_load28 7 rfl rfl (unhide HD) (unhide QD) ?_
  refine hK _ ?_
  clear hK K
  go_frame
  refine BigFrame.wpQuiet_want rfl (fun K hK => ?_)
  refine quiet_load28 8 rfl rfl (unhide HE) (unhide QE) ?_
  refine hK _ ?_
  clear hK K
  go_frame
  go_big_quiet_step (exact Calls.regrown_of (unhide Cde _))
  refine BigFrame.wpQuiet_want rfl (fun K hK => ?_)
  refine quiet_load28 2 rfl rfl (unhide HX) (unhide QA) ?_
  refine hK _ ?_
  clear hK K
  go_frame
  refine BigFrame.wpQuiet_want rfl (fun K hK => ?_)
  refine quiet_load28 3 rfl rfl (unhide HY) (unhide QB) ?_
  refine hK _ ?_
  clear hK K
  go_frame
  repeat (go_big_quiet_step (exact Calls.regrown_of (unhide Cxy _)))
  refine wpQuiet_nil ?_
  intro _ hw'
  obtain ⟨⟨dq, osq⟩, hw''⟩ := hw'
  subst hw''
  go_wp2
  go_ret
  exact ⟨rfl, (unhide HW).trans ((below_regrown W dq osq).mono (unhide HW).size)⟩

theorem takes_case (x y : Ent) : (¬ 0 ≤ x.pos ∧ same x (takes x y) = false) ∨ (0 ≤ x.pos ∧ ¬ 0 ≤ y.pos ∧ same x (takes x y) = false) ∨ (0 ≤ x.pos ∧ 0 ≤ y.pos ∧ ¬ 0 ≤ x.off ∧ same x (takes x y) = false) ∨ (0 ≤ x.pos ∧ 0 ≤ y.pos ∧ 0 ≤ x.off ∧ same x (takes x y) = true) := by
  by_cases h1 : 0 ≤ x.pos
  · by_cases h2 : 0 ≤ y.pos
    · by_cases h3 : 0 ≤ x.off
      · exact .inr (.inr (.inr ⟨h1, h2, h3, by simp [same, takes, h1, h2, h3]⟩))
      · exact .inr (.inr (.inl ⟨h1, h2, h3, by simp [same, takes, h3]⟩))
    · exact .inr (.inl ⟨h1, h2, by simp [same, takes, h2]⟩)
  · exact .inl ⟨h1, by simp [same, h1]⟩

end Go.Proofs.Qxb6604713aMods.Entry
