/-
  A PROOF OF 'Rows.FnBitsForLeastCoveringTableSaid', in the frame that the shell tool wrote; the walk is typed by hand.
-/
import Derived.Test.Qxb6604713aModsRows
import Derived.WalkKit
import Derived.ProofKit
import Derived.OpenShut
import Derived.ShutString
import Derived.Test.Qxb6604713aModsBits
namespace Go.Proofs.Qxb6604713aMods.fnBitsForLeastCoveringTable
open Go.ChangeShapes Go.WideShapes Go.ChangeAt Go.RowKit
open Go.ChangeMaps (open_string shut_string)
set_option linter.unusedVariables false      -- a walk need not use every 'w<i>' (that an integer argument fits its kind)

theorem own : ownKnob Trym.prog.godebug = none := by kernel_rfl

/-! ### STEP 1: THE WALK -/
set_option maxHeartbeats 800000 in
theorem walk (a0 : Int) (w0 : (Lit.int .i64 a0).wf = true) (w : World) :
    Calls Trym.prog 4 #[.int .i64 a0] w fun e w' => e = .returned (.bool true) ∧ Grown w w' := by
  have hbd := bounds_i64 w0
  clear w0
  go_enter Trym.func4, Trym.ntmps4
  go_wp2_with fail
  refine (zzbitsFor_any a0 _).mono ?_
  rintro e w' ⟨⟨k, rfl, hk⟩, rfl⟩
  have hk40 := hk.le
  have HK := hide hk
  by_cases h0 : k = 0
  · subst h0
    have hcov : a0 ≤ 320 := by rcases hk.covers with e | e
                               · omega
                               · rw [cover_zero] at e; exact e
    clear hk HK
    go_wp2
    go_ret
    exact ⟨rfl, Grown.refl _⟩
  · have hk1 : 1 ≤ k := by omega
    have h320 : (320 : Int) < a0 := by have := hk.below 0 (by omega); rwa [cover_zero] at this
    have tlow : wrap64 (320 * 2 ^ (k - 1)) < a0 := by rw [wrap_cover (by omega)]; exact hk.below (k - 1) (by omega)
    by_cases hlt : k < 40
    · have tcov : a0 ≤ wrap64 (320 * 2 ^ k) := by rw [wrap_cover hk40]; rcases hk.covers with e | e <;> omega
      have h61 : a0 ≤ 351843720888320 := by rw [wrap_cover hk40] at tcov; have := cover_le hk40; omega
      have tb : (k : Int) < 40 := by omega
      clear hk h0 hbd
      go_wp2_with fail
      refine (zzbitsFor_any (2 * a0) _).mono ?_
      rintro e w' ⟨⟨j, rfl, hj⟩, rfl⟩
      obtain rfl := IsBits.unique hj (HK.out.double h320 hlt)
      clear hj tlow tcov
      have hne : (((k + 1 : Nat) : Int) != (k : Int) + 1) = false := by simp
      go_wp2
      go_ret
      exact ⟨rfl, Grown.refl _⟩
    · obtain rfl : k = 40 := by omega
      have t39 : (175921860444160 : Int) < a0 := by have := hk.below 39 (by omega); rwa [show cover 39 = 175921860444160 by decide] at this
      clear hk HK h0 hk40 hk1 hlt tlow
      by_cases h61 : a0 ≤ 2305843009213693952
      · go_wp2
        go_ret
        exact ⟨rfl, Grown.refl _⟩
      · go_wp2
        go_ret
        exact ⟨rfl, Grown.refl _⟩

/-! ### THE ROW's STEP: WRITTEN OUT: LEAVE IT -/
set_option maxRecDepth 100000 in
theorem lifted (os : Os) (started : os.Started) (H : Type) (enc : TypeId × Value → H) :
    ReturnsInHanded {} Trym.checked os 4 .any (Rows.fnBitsForLeastCoveringTableSpec.pre6 enc Trym.prog Trym.f4 Rows.fnBitsForLeastCoveringTableRow.domain false) (Rows.fnBitsForLeastCoveringTableSpec.post enc Trym.prog Trym.f4 false true false false) := by
  refine returnsInHanded_of_change (C := Trym.checked) own started (by kernel_rfl) Trym.func4
    (ChangeSpec.witness6 (enc := enc) (C := Trym.checked) false ⟨#[], #[.int .i64 0], []⟩ 8 (by kernel_rfl) (by kernel_rfl) (by kernel_rfl) (by kernel_rfl)) ?_
  intro W base args ds gs before hval0 hW hcnd _
  have hval : ∀ (j : Nat) t v, Trym.f4.params[j]? = some t → args[j]? = some v → Value.okWide Trym.prog W .any base t v := hval0
  have hW' := hW
  obtain ⟨p, q, hA0, hV, rfl, hfz, hnd⟩ := hW
  have hA : DataW.TrodAll enc Trym.prog W 0 (fun _ => true) true Trym.f4.params.toList args.toList ds p := hA0
  rw [Trym.params4] at hA hval
  obtain ⟨v0, vs0, d0, ds0, p0, q0, hargs, rfl, rfl, h0, r0⟩ := trodAll_cons hA
  obtain ⟨rfl, rfl, rfl⟩ := trodAll_nil r0
  obtain rfl : args = #[v0] := by cases args; simp_all
  obtain ⟨rfl, rfl⟩ := trodVars_none hV
  obtain ⟨a0, rfl, rfl, rfl, w0⟩ := open_int Trym.underlying2 (hval 0 2 v0 rfl rfl) h0
  clear hA0 hval0
  simp only [List.append_nil] at hW'
  refine (walk a0 w0 W).mono fun e W' ⟨he, hg⟩ => ?_
  subst he
  exact ⟨_, rfl, post_of_same (pa := []) (pv := []) hW' (fun _ _ _ => (trodAll_cons_mk (shut_bool Trym.underlying4 _) trodAll_mk0)) (fun sp _ => (trodAll_cons_mk (shut_int Trym.underlying2 w0) trodAll_mk0)) (fun _ _ => rfl) rfl
    (hg.frame _) hg.2.1 (ok_one (by kernel_rfl) rfl (okWide_bool_mk Trym.underlying4 _))⟩

theorem over : Rows.fnBitsForLeastCoveringTableRow.holds Trym.pinned (OpenSpec.ofChange Rows.fnBitsForLeastCoveringTableSpec) :=
  OpenClaim.holds_of_wide 4 Trym.f4 rfl rfl rfl rfl rfl rfl rfl ⟨rfl, rfl, rfl, rfl, rfl⟩ rfl rfl rfl rfl rfl (by kernel_rfl) Trym.func4 (by kernel_rfl)
    (of_decide_eq_true (by kernel_rfl)) (by unfold Func.isWrapper; first | (rw [if_pos (by decide +kernel)]; kernel_rfl) | (rw [if_neg (by decide +kernel)]; exact ⟨rfl, rfl⟩))
    (fun os started H enc _ => lifted os started H enc)

/-- ████ THE STATEMENT ████ -/
theorem proved : Rows.FnBitsForLeastCoveringTableSaid :=
  over
#print axioms proved
end Go.Proofs.Qxb6604713aMods.fnBitsForLeastCoveringTable
