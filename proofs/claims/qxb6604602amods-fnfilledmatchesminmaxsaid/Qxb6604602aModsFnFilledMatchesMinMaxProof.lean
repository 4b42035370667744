/-
  A PROOF OF 'Rows.FnFilledMatchesMinMaxSaid', in the frame that the shell tool wrote; the walk is typed by hand.
-/
import Derived.Test.Qxb6604602aModsRows
import Derived.WalkKit
import Derived.ProofKit
import Derived.OpenShut
import Derived.ShutString
import Derived.ChangeOld
import Derived.Below
import Derived.Test.Qxb6604602aModsCommon
namespace Go.Proofs.Qxb6604602aMods.fnFilledMatchesMinMax
open Go.ChangeShapes Go.WideShapes Go.ChangeAt Go.RowKit
open Go.ChangeMaps (open_string shut_string)
set_option linter.unusedVariables false

theorem own : ownKnob Trym.prog.godebug = none := by kernel_rfl
theorem laidOut : laidOutB Trym.prog = true := by kernel_rfl

/-- WHAT THE WALK IS TOLD OF A SLICE OF INTEGERS THAT CAME IN: it is nil; or it leads to a row of 'cap' cells, the numbers 'zs' (the first 'len' are its elements, the rest its spare room), each fitting its kind. -/
def IsRow (k : IntKind) (w : World) (a : Option Addr) (len cap : Nat) (zs : List Int) : Prop :=
  (a = none ∧ len = 0 ∧ cap = 0 ∧ zs = []) ∨
  ∃ x, a = some x ∧ len ≤ cap ∧ cap ≤ maxLen ∧ zs.length = cap ∧ (∀ i, i < zs.length → w.cell? (x.add i) = some (.int k (zs.getD i 0))) ∧ ∀ n ∈ zs, (Lit.int k n).wf = true

/-! ### THE PLAIN LAW -/
/-- lo and hi are the least and the greatest of the first k numbers. -/
structure MinMax (f : Nat → Int) (k : Nat) (lo hi : Int) : Prop where
  bd : ∀ j, j < k → lo ≤ f j ∧ f j ≤ hi
  lo_at : ∃ j, j < k ∧ f j = lo
  hi_at : ∃ j, j < k ∧ f j = hi

theorem MinMax.one (f : Nat → Int) : MinMax f 1 (f 0) (f 0) :=
  ⟨fun j hj => by obtain rfl : j = 0 := by omega
                  exact ⟨Int.le_refl _, Int.le_refl _⟩, ⟨0, by omega, rfl⟩, ⟨0, by omega, rfl⟩⟩

theorem MinMax.step {f : Nat → Int} {k : Nat} {lo hi lo' hi' : Int} (h : MinMax f k lo hi)
    (h1 : (f k < lo ∧ lo' = f k) ∨ (lo ≤ f k ∧ lo' = lo)) (h2 : (hi < f k ∧ hi' = f k) ∨ (f k ≤ hi ∧ hi' = hi)) : MinMax f (k + 1) lo' hi' := by
  obtain ⟨b, ⟨jl, hjl, el⟩, ⟨jh, hjh, eh⟩⟩ := h
  refine ⟨fun j hj => ?_, ?_, ?_⟩
  · by_cases e : j = k
    · subst e; omega
    · have := b j (by omega); omega
  · rcases h1 with ⟨_, e⟩ | ⟨_, e⟩
    · exact ⟨k, by omega, e.symm⟩
    · exact ⟨jl, by omega, by omega⟩
  · rcases h2 with ⟨_, e⟩ | ⟨_, e⟩
    · exact ⟨k, by omega, e.symm⟩
    · exact ⟨jh, by omega, by omega⟩

theorem MinMax.all {f : Nat → Int} {n : Nat} {lo hi c : Int} (h : MinMax f n lo hi) : allC f c n = ((lo == c) && (hi == c)) := by
  obtain ⟨b, ⟨jl, hjl, el⟩, ⟨jh, hjh, eh⟩⟩ := h
  by_cases e : lo = c ∧ hi = c
  · obtain ⟨e1, e2⟩ := e
    rw [allC_true (fun i hi => by have := b i hi; omega)]
    simp [e1, e2]
  · by_cases e1 : lo = c
    · rw [allC_false hjh (by omega)]; simp; omega
    · rw [allC_false hjl (by omega)]; simp; omega

/-! ### STEP 1: THE WALK -/
/-- The law at a slice that is nil or empty. -/
theorem walk_nil (a1 : Int) (w : World) :
    Calls Trym.prog 3 #[.slice none 0 0, .int .u8 a1] w fun e w' => e = .returned (.bool true) ∧ Below w.heap.size w w' := by
  have HZ : Hid (allC (fun _ => 0) a1 0 = true) := allC_true (fun i hi => absurd hi (Nat.not_lt_zero _))
  go_enter Trym.func3, Trym.ntmps3
  go_wp2_with (first | (go_at_call 5; go_in) | fail)
  refine (clone_nil _).mono ?_
  rintro e w' ⟨rfl, rfl⟩
  go_wp2_with fail
  refine (zzfilled_any none 0 0 0 0 (fun _ => 0) a1 _ (fun h => absurd h (Nat.lt_irrefl _)) (fun i hi => absurd hi (Nat.not_lt_zero _)) (by omega)).mono ?_
  rintro e w' ⟨rfl, rfl⟩
  rw [HZ.out]
  go_wp2
  go_ret
  exact ⟨rfl, Below.refl _ _⟩

set_option maxHeartbeats 800000 in
theorem walk_big (a0 : Option Addr) (n cap : Nat) (a1 : Int) (w : World) (hn : 1048576 < n) (hm : n ≤ maxLen) :
    Calls Trym.prog 3 #[.slice a0 n cap, .int .u8 a1] w fun e w' => e = .returned (.bool true) ∧ Below w.heap.size w w' := by
  unfold maxLen at hm
  have hz : (1048576 : Int) < (n : Int) := by omega
  go_enter Trym.func3, Trym.ntmps3
  go_wp2
  go_ret
  exact ⟨rfl, Below.refl _ _⟩

set_option maxHeartbeats 800000 in
theorem walk_some (x : Addr) (b o n cap : Nat) (f : Nat → Int) (a1 : Int) (w : World) (ha : 0 < n → x = ⟨b, o, none⟩)
    (hc : ∀ i, i < n → w.cell? ⟨b, o + i, none⟩ = some (.int .u8 (f i))) (hn : n ≤ 1048576) :
    Calls Trym.prog 3 #[.slice (some x) n cap, .int .u8 a1] w fun e w' => e = .returned (.bool true) ∧ Below w.heap.size w w' := by
  have HC := hide (clone_some x b o n cap f w ha hc hn)
  clear ha hc
  have hz : ¬ (1048576 : Int) < (n : Int) := by omega
  go_enter Trym.func3, Trym.ntmps3
  go_wp2_with (first | (go_at_call 5; go_in) | fail)
  refine (unhide HC).mono ?_
  rintro e w1 ⟨rfl, hrow, hbel⟩
  clear HC
  go_wp2_with fail
  refine (zzfilled_any (some ⟨w.heap.size, 0, none⟩) w.heap.size 0 n n f a1 _ (fun _ => rfl) (fun i hi => by rw [Nat.zero_add]; exact hrow.cell hi) hn).mono ?_
  rintro e w2 ⟨rfl, rfl⟩
  by_cases h0 : n = 0
  · subst h0
    have HZ : allC f a1 0 = true := allC_true (fun i hi => absurd hi (Nat.not_lt_zero _))
    rw [HZ]
    go_wp2
    go_ret
    exact ⟨rfl, hbel⟩
  · have hpos : (0 : Int) < (n : Int) := by omega
    have hcell0 := hrow.cell (i := 0) (by omega)
    go_wp2
    go_loop [7, 8, 9] (fun l h i => ∃ (k : Nat) (lo hi : Int), 1 ≤ k ∧ k ≤ n ∧ l = .int .u8 lo ∧ h = .int .u8 hi ∧ i = .int .i64 k ∧ MinMax f k lo hi) (fun _ _ i => n - (intOf i).toNat)
    case atStart => exact ⟨1, f 0, f 0, Nat.le_refl _, by omega, rfl, rfl, rfl, MinMax.one f⟩
    case round =>
      obtain ⟨k, lo, hi, hk1, hk, rfl, rfl, rfl, hmm⟩ := hrel
      by_cases hlt : k < n
      · have hcell := hrow.cell (i := k) hlt
        have hltz : (k : Int) < (n : Int) := by omega
        clear hcell0 h0
        go_wp2
        all_goals
          go_round
          case rel => exact ⟨k + 1, _, _, by omega, by omega, rfl, rfl, by go_num, hmm.step (by omega) (by omega)⟩
          case measure => simp [intOf]; omega
      · obtain rfl : k = n := by omega
        have HM : Hid (allC f a1 k = ((lo == a1) && (hi == a1))) := hmm.all
        clear hmm hcell0 h0
        generalize allC f a1 k = got at *
        by_cases h1 : lo = a1
        · have h1b : (lo == a1) = true := by simp [h1]
          by_cases h2 : hi = a1
          · have h2b : (hi == a1) = true := by simp [h2]
            have hg := HM.out; rw [h1b, h2b] at hg; simp at hg; subst hg
            have H1 := hide h1; have H2 := hide h2; clear h1 h2
            go_wp2
            go_ret
            exact ⟨rfl, hbel⟩
          · have h2b : (hi == a1) = false := by simp [h2]
            have hg := HM.out; rw [h1b, h2b] at hg; simp at hg; subst hg
            clear h1 h2
            go_wp2
            go_ret
            exact ⟨rfl, hbel⟩
        · have h1b : (lo == a1) = false := by simp [h1]
          have hg := HM.out; rw [h1b] at hg; simp at hg; subst hg
          clear h1
          go_wp2
          go_ret
          exact ⟨rfl, hbel⟩

theorem walk (a0 : Option Addr) (len0 cap0 : Nat) (z0 : List Int) (a1 : Int) (w : World) (w0 : IsRow .u8 w a0 len0 cap0 z0) (w1 : (Lit.int .u8 a1).wf = true) :
    Calls Trym.prog 3 #[.slice a0 len0 cap0, .int .u8 a1] w fun e w' => e = .returned (.bool true) ∧ Below w.heap.size w w' := by
  rcases w0 with ⟨rfl, rfl, rfl, rfl⟩ | ⟨x, rfl, hl, hm, hz, hcell, _⟩
  · exact walk_nil a1 w
  · by_cases hn : len0 ≤ 1048576
    · obtain ⟨b, o, spot⟩ := x
      refine walk_some ⟨b, o, spot⟩ b o len0 cap0 (fun i => z0.getD i 0) a1 w (fun h => ?_) (fun i hi => ?_) hn
      · have hspot : spot = none := by simpa [Addr.add] using World.cell?_spot (hcell 0 (by omega))
        rw [hspot]
      · have hspot : spot = none := by simpa [Addr.add] using World.cell?_spot (hcell 0 (by omega))
        subst hspot
        rw [← add_plain]; exact hcell i (by omega)
    · exact walk_big _ _ _ _ _ (by omega) (by omega)

/-! ### THE ROW's STEP: WRITTEN OUT: LEAVE IT -/
set_option maxRecDepth 100000 in
theorem lifted (os : Os) (started : os.Started) (H : Type) (enc : TypeId × Value → H) :
    ReturnsInHanded {} Trym.checked os 3 .any (Rows.fnFilledMatchesMinMaxSpec.pre6 enc Trym.prog Trym.f3 Rows.fnFilledMatchesMinMaxRow.domain false) (Rows.fnFilledMatchesMinMaxSpec.post enc Trym.prog Trym.f3 false true false false) := by
  refine returnsInHanded_of_change (C := Trym.checked) own started (by kernel_rfl) Trym.func3
    (ChangeSpec.witness6 (enc := enc) (C := Trym.checked) false ⟨#[], #[.slice none 0 0, .int .u8 0], []⟩ 8 (by kernel_rfl) (by kernel_rfl) (by kernel_rfl) (by kernel_rfl)) ?_
  intro W base args ds gs before hval0 hW hcnd _
  have hval : ∀ (j : Nat) t v, Trym.f3.params[j]? = some t → args[j]? = some v → Value.okWide Trym.prog W .any base t v := hval0
  have hW' := hW
  obtain ⟨p, q, hA0, hV, rfl, hfz, hnd⟩ := hW
  have hA : DataW.TrodAll enc Trym.prog W 0 (fun _ => true) true Trym.f3.params.toList args.toList ds p := hA0
  rw [Trym.params3] at hA hval
  obtain ⟨v0, vs0, d0, ds0, p0, q0, hargs, rfl, rfl, h0, r0⟩ := trodAll_cons hA
  obtain ⟨v1, vs1, d1, ds1, p1, q1, rfl, rfl, rfl, h1, r1⟩ := trodAll_cons r0
  obtain ⟨rfl, rfl, rfl⟩ := trodAll_nil r1
  obtain rfl : args = #[v0, v1] := by cases args; simp_all
  obtain ⟨rfl, rfl⟩ := trodVars_none hV
  obtain ⟨a0, len0, cap0, rfl⟩ := okWide_slice Trym.underlying22 (hval 0 22 v0 rfl rfl)
  have k0 := h0
  have lt0 : ∀ x ∈ p0, x.block < W.heap.size := by obtain ⟨m, hm⟩ := k0; exact DataW.trod_lt m _ _ _ hm
  obtain ⟨z0, w0⟩ : ∃ zs, IsRow .u8 W a0 len0 cap0 zs := by
    obtain ⟨fuel, hf⟩ := h0
    rcases open_ints Trym.underlying22 Trym.underlying5 (by kernel_rfl) hf with ⟨hcs, _⟩ | ⟨x, l, c, zs, hcs, _, hl, hm, hz, _, hcell, hwz⟩
    · simp [Value.cells] at hcs
      obtain ⟨rfl, rfl, rfl⟩ := hcs
      exact ⟨[], .inl ⟨rfl, rfl, rfl, rfl⟩⟩
    · simp [Value.cells] at hcs
      obtain ⟨rfl, rfl, rfl⟩ := hcs
      exact ⟨zs, .inr ⟨_, rfl, hl, hm, by simpa using hz, hcell, hwz⟩⟩
  obtain ⟨a1, rfl, rfl, rfl, w1⟩ := open_int Trym.underlying5 (hval 1 5 v1 rfl rfl) h1
  clear hA0 hval0
  refine (walk a0 len0 cap0 z0 a1 W w0 w1).mono fun e W' ⟨he, bel⟩ => ?_
  subst he
  exact ⟨_, rfl, _, _, _, [], _, [], hW', trodAll_mk1 (shut_bool Trym.underlying4 _), (trodAll_cons_mk (Below.trod laidOut (by kernel_rfl) (of_decide_eq_true (by kernel_rfl)) k0 bel lt0) (trodAll_cons_mk (shut_int Trym.underlying5 w1) trodAll_mk0)), rfl, bel.frame _, fun h => by cases h⟩

theorem over : Rows.fnFilledMatchesMinMaxRow.holds Trym.pinned (OpenSpec.ofChange Rows.fnFilledMatchesMinMaxSpec) :=
  OpenClaim.holds_of_wide 3 Trym.f3 rfl rfl rfl rfl rfl rfl rfl ⟨rfl, rfl, rfl, rfl, rfl⟩ rfl rfl rfl rfl rfl (by kernel_rfl) Trym.func3 (by kernel_rfl)
    (of_decide_eq_true (by kernel_rfl)) (by unfold Func.isWrapper; first | (rw [if_pos (by decide +kernel)]; kernel_rfl) | (rw [if_neg (by decide +kernel)]; exact ⟨rfl, rfl⟩))
    (fun os started H enc _ => lifted os started H enc)

/-- ████ THE STATEMENT ████ -/
theorem proved : Rows.FnFilledMatchesMinMaxSaid := over
#print axioms proved
end Go.Proofs.Qxb6604602aMods.fnFilledMatchesMinMax
