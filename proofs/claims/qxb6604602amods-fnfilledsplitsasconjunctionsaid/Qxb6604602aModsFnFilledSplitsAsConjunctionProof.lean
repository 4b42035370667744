/-
  A PROOF OF 'Rows.FnFilledSplitsAsConjunctionSaid', in the frame that the shell tool wrote; the walk is typed by hand.
-/
import Derived.Test.Qxb6604602aModsRows
import Derived.WalkKit
import Derived.ProofKit
import Derived.OpenShut
import Derived.ShutString
import Derived.ChangeOld
import Derived.Below
import Derived.Deep.QuietTactic
import Derived.BigQuiet
import Derived.Test.Qxb6604602aModsCommon
namespace Go.Proofs.Qxb6604602aMods.fnFilledSplitsAsConjunction
open Go.ChangeShapes Go.WideShapes Go.ChangeAt Go.RowKit
open Go.ChangeMaps (open_string shut_string)
set_option linter.unusedVariables false

theorem own : ownKnob Trym.prog.godebug = none := by kernel_rfl
theorem laidOut : laidOutB Trym.prog = true := by kernel_rfl

/-- WHAT THE WALK IS TOLD OF A SLICE OF INTEGERS THAT CAME IN: it is nil; or it leads to a row of 'cap' cells, the numbers 'zs' (the first 'len' are its elements, the rest its spare room), each fitting its kind. -/
def IsRow (k : IntKind) (w : World) (a : Option Addr) (len cap : Nat) (zs : List Int) : Prop :=
  (a = none ∧ len = 0 ∧ cap = 0 ∧ zs = []) ∨
  ∃ x, a = some x ∧ len ≤ cap ∧ cap ≤ maxLen ∧ zs.length = cap ∧ (∀ i, i < zs.length → w.cell? (x.add i) = some (.int k (zs.getD i 0))) ∧ ∀ n ∈ zs, (Lit.int k n).wf = true

/-! ### THE PLAIN LAW -/
theorem all_one {f g : Nat → Int} {k : Nat} (hg : ∀ i, g i = f (k + i)) (c : Int) : allC g c 1 = (f k == c) := by
  have h0 : g 0 = f k := hg 0
  by_cases h : f k = c
  · rw [allC_true (fun i hi => by obtain rfl : i = 0 := by omega
                                  rw [h0]; exact h)]
    simp [h]
  · rw [allC_false (k := 0) (by omega) (by rw [h0]; exact h)]
    simp [h]

theorem all_split {f g : Nat → Int} {k : Nat} (hg : ∀ i, g i = f (k + i)) (c : Int) (n : Nat) (hk : k ≤ n) : allC f c n = (allC f c k && allC g c (n - k)) := by
  rw [Bool.eq_iff_iff, Bool.and_eq_true, allC_iff, allC_iff, allC_iff]
  refine ⟨fun h => ⟨fun i hi => h i (by omega), fun i hi => by rw [hg]; exact h (k + i) (by omega)⟩, fun ⟨h1, h2⟩ i hi => ?_⟩
  by_cases e : i < k
  · exact h1 i e
  · have := h2 (i - k) (by omega)
    rw [hg] at this
    rwa [show k + (i - k) = i from by omega] at this

theorem all_none (f : Nat → Int) (c : Int) : allC f c 0 = true := allC_true (fun i hi => absurd hi (Nat.not_lt_zero _))

/-! ### STEP 1: THE WALK -/
theorem walk_nil (a1 k : Int) (w : World) :
    Calls Trym.prog 4 #[.slice none 0 0, .int .u8 a1, .int .i64 k] w fun e w' => e = .returned (.bool true) ∧ Below w.heap.size w w' := by
  have HF := fun cap (w : World) => zzfilled_any none 0 0 0 cap (fun _ => 0) a1 w (fun h => absurd h (Nat.lt_irrefl _)) (fun i hi => absurd hi (Nat.not_lt_zero _)) (by omega)
  rw [all_none] at HF
  have HF := hide HF
  by_cases h1 : k < 0
  · go_enter Trym.func4, Trym.ntmps4
    go_wp2_with (first | (go_at_call 8; go_in) | fail)
    refine (clone_nil _).mono ?_
    rintro e w' ⟨rfl, rfl⟩
    go_wp2_with (go_at_call 7; refine (unhide HF 0 _).mono ?_; rintro e w' ⟨rfl, rfl⟩)
    go_ret
    exact ⟨rfl, Below.refl _ _⟩
  · by_cases h2 : 0 < k
    · go_enter Trym.func4, Trym.ntmps4
      go_wp2_with (first | (go_at_call 8; go_in) | fail)
      refine (clone_nil _).mono ?_
      rintro e w' ⟨rfl, rfl⟩
      go_wp2_with (go_at_call 7; refine (unhide HF 0 _).mono ?_; rintro e w' ⟨rfl, rfl⟩)
      go_ret
      exact ⟨rfl, Below.refl _ _⟩
    · obtain rfl : k = 0 := by omega
      go_enter Trym.func4, Trym.ntmps4
      go_wp2_with (first | (go_at_call 8; go_in) | fail)
      refine (clone_nil _).mono ?_
      rintro e w' ⟨rfl, rfl⟩
      go_wp2_with (go_at_call 7; refine (unhide HF 0 _).mono ?_; rintro e w' ⟨rfl, rfl⟩)
      go_ret
      exact ⟨rfl, Below.refl _ _⟩

set_option maxHeartbeats 800000 in
theorem walk_big (a0 : Option Addr) (n cap : Nat) (a1 k : Int) (w : World) (hn : 1048576 < n) (hm : n ≤ maxLen) :
    Calls Trym.prog 4 #[.slice a0 n cap, .int .u8 a1, .int .i64 k] w fun e w' => e = .returned (.bool true) ∧ Below w.heap.size w w' := by
  unfold maxLen at hm
  have hz : (1048576 : Int) < (n : Int) := by omega
  go_enter Trym.func4, Trym.ntmps4
  go_wp2
  go_ret
  exact ⟨rfl, Below.refl _ _⟩

set_option maxHeartbeats 1600000 in
/-- The cut lies ahead of the end. -/
theorem walk_inside (x : Addr) (b o n cap : Nat) (f : Nat → Int) (a1 k : Int) (kk : Nat) (w : World) (ha : 0 < n → x = ⟨b, o, none⟩)
    (hc : ∀ i, i < n → w.cell? ⟨b, o + i, none⟩ = some (.int .u8 (f i))) (hn : n ≤ 1048576) (hk : (k < 0 ∧ kk = 0) ∨ k = kk) (hkn : kk < n) :
    Calls Trym.prog 4 #[.slice (some x) n cap, .int .u8 a1, .int .i64 k] w fun e w' => e = .returned (.bool true) ∧ Below w.heap.size w w' := by
  have HC := hide (clone_some x b o n cap f w ha hc hn)
  clear ha hc
  have hz : ¬ (1048576 : Int) < (n : Int) := by omega
  obtain ⟨g, hg⟩ : ∃ g : Nat → Int, ∀ i, g i = f (kk + i) := ⟨fun i => f (kk + i), fun _ => rfl⟩
  have E0 := hide (all_none f a1)
  have E1 := hide (all_one hg a1)
  have E2 := hide (all_split hg a1 n (by omega))
  have HG := hide hg
  clear hg
  have hk1 : ¬ (n : Int) < k := by omega
  have hkz : (kk : Int) < (n : Int) := by omega
  rcases hk with ⟨hneg, rfl⟩ | rfl
  · go_enter Trym.func4, Trym.ntmps4
    go_wp2_with (first | (go_at_call 8; go_in) | fail)
    refine (unhide HC).mono ?_
    rintro e w1 ⟨rfl, hrow, hbel⟩
    clear HC
    have HCL := hide (fun i (hi : i < n) => hrow.cell hi)
    have HB := hide hbel
    have hck := hrow.cell hkn
    clear hrow hbel
    go_wp2_with fail
    refine (zzfilled_any _ w.heap.size 0 0 n f a1 _ (fun h => absurd h (Nat.lt_irrefl _)) (fun i hi => absurd hi (Nat.not_lt_zero _)) (by omega)).mono ?_
    rintro e w2 ⟨rfl, rfl⟩
    rw [E0.out]
    go_wp2_with fail
    go_quiet ((go_at_call 7; exact Calls.quiet_of_same (zzfilled_any _ w.heap.size 0 1 _ g a1 _ (fun _ => rfl) (by intro i hi; rw [unhide HG]; exact unhide HCL _ (by omega)) (by omega))))
    rw [E1.out]
    generalize (f 0 == a1) = q
    cases q
    all_goals
      go_wp2_with fail
      refine (zzfilled_any (some ⟨w.heap.size, 0, none⟩) w.heap.size 0 n n f a1 _ (fun _ => rfl) (by intro i hi; rw [Nat.zero_add]; exact unhide HCL i hi) (by omega)).mono ?_
      rintro e w3 ⟨rfl, rfl⟩
      go_wp2_with fail
      refine (zzfilled_any _ w.heap.size 0 0 n f a1 _ (fun h => absurd h (Nat.lt_irrefl _)) (fun i hi => absurd hi (Nat.not_lt_zero _)) (by omega)).mono ?_
      rintro e w4 ⟨rfl, rfl⟩
      go_wp2_with fail
      refine (zzfilled_any _ w.heap.size 0 n n g a1 _ (fun _ => rfl) (by intro i hi; rw [unhide HG]; simpa using unhide HCL i hi) (by omega)).mono ?_
      rintro e w5 ⟨rfl, rfl⟩
      rw [E2.out]
      generalize allC f a1 0 = l
      rw [Nat.sub_zero]
      generalize allC g a1 n = r
      cases l <;> cases r
      all_goals
        go_wp2
        go_ret
        exact ⟨rfl, below_drewN HB.out _⟩
  · have hk0 : ¬ (kk : Int) < 0 := by omega
    go_enter Trym.func4, Trym.ntmps4
    go_wp2_with (first | (go_at_call 8; go_in) | fail)
    refine (unhide HC).mono ?_
    rintro e w1 ⟨rfl, hrow, hbel⟩
    clear HC
    have HCL := hide (fun i (hi : i < n) => hrow.cell hi)
    have HB := hide hbel
    have hck := hrow.cell hkn
    clear hrow hbel
    go_wp2_with fail
    refine (zzfilled_any _ w.heap.size 0 0 n f a1 _ (fun h => absurd h (Nat.lt_irrefl _)) (fun i hi => absurd hi (Nat.not_lt_zero _)) (by omega)).mono ?_
    rintro e w2 ⟨rfl, rfl⟩
    rw [E0.out]
    go_wp2_with fail
    go_quiet ((go_at_call 7; exact Calls.quiet_of_same (zzfilled_any _ w.heap.size kk 1 _ g a1 _ (fun _ => rfl) (by intro i hi; rw [unhide HG]; exact unhide HCL (kk + i) (by omega)) (by omega))))
    rw [E1.out]
    generalize (f kk == a1) = q
    cases q
    all_goals
      go_wp2_with fail
      refine (zzfilled_any (some ⟨w.heap.size, 0, none⟩) w.heap.size 0 n n f a1 _ (fun _ => rfl) (by intro i hi; rw [Nat.zero_add]; exact unhide HCL i hi) (by omega)).mono ?_
      rintro e w3 ⟨rfl, rfl⟩
      go_wp2_with fail
      refine (zzfilled_any _ w.heap.size 0 kk n f a1 _ (fun _ => rfl) (by intro i hi; rw [Nat.zero_add]; exact unhide HCL i (by omega)) (by omega)).mono ?_
      rintro e w4 ⟨rfl, rfl⟩
      go_wp2_with fail
      refine (zzfilled_any _ w.heap.size kk (n - kk) (n - kk) g a1 _ (fun _ => rfl) (by intro i hi; rw [unhide HG]; exact unhide HCL (kk + i) (by omega)) (by omega)).mono ?_
      rintro e w5 ⟨rfl, rfl⟩
      rw [E2.out]
      generalize allC f a1 kk = l
      generalize allC g a1 (n - kk) = r
      cases l <;> cases r
      all_goals
        go_wp2
        go_ret
        exact ⟨rfl, below_drewN HB.out _⟩

set_option maxHeartbeats 1600000 in
/-- The cut lies at the end. -/
theorem walk_end (x : Addr) (b o n cap : Nat) (f : Nat → Int) (a1 k : Int) (w : World) (ha : 0 < n → x = ⟨b, o, none⟩)
    (hc : ∀ i, i < n → w.cell? ⟨b, o + i, none⟩ = some (.int .u8 (f i))) (hn : n ≤ 1048576) (hk : (k < 0 ∧ n = 0) ∨ k = n ∨ (n : Int) < k) :
    Calls Trym.prog 4 #[.slice (some x) n cap, .int .u8 a1, .int .i64 k] w fun e w' => e = .returned (.bool true) ∧ Below w.heap.size w w' := by
  have HC := hide (clone_some x b o n cap f w ha hc hn)
  clear ha hc
  have hz : ¬ (1048576 : Int) < (n : Int) := by omega
  obtain ⟨g, hg⟩ : ∃ g : Nat → Int, ∀ i, g i = f (n + i) := ⟨fun i => f (n + i), fun _ => rfl⟩
  have E0 := hide (all_none f a1)
  have E3 := hide (all_none g a1)
  rcases hk with ⟨hneg, rfl⟩ | rfl | hbig
  · go_enter Trym.func4, Trym.ntmps4
    go_wp2_with (first | (go_at_call 8; go_in) | fail)
    refine (unhide HC).mono ?_
    rintro e w1 ⟨rfl, hrow, hbel⟩
    clear HC
    have HB := hide hbel
    clear hrow hbel
    have HF := fun a cap (w : World) => zzfilled_any a 0 0 0 cap f a1 w (fun h => absurd h (Nat.lt_irrefl _)) (fun i hi => absurd hi (Nat.not_lt_zero _)) (by omega)
    rw [all_none] at HF
    have HF := hide HF
    go_wp2_with (go_at_call 7; refine (unhide HF _ _ _).mono ?_; rintro e w' ⟨rfl, rfl⟩)
    go_ret
    exact ⟨rfl, HB.out⟩
  · have hk0 : ¬ (n : Int) < 0 := by omega
    go_enter Trym.func4, Trym.ntmps4
    go_wp2_with (first | (go_at_call 8; go_in) | fail)
    refine (unhide HC).mono ?_
    rintro e w1 ⟨rfl, hrow, hbel⟩
    clear HC
    have HCL := hide (fun i (hi : i < n) => hrow.cell hi)
    have HB := hide hbel
    clear hrow hbel
    go_wp2_with fail
    refine (zzfilled_any _ w.heap.size 0 0 n f a1 _ (fun h => absurd h (Nat.lt_irrefl _)) (fun i hi => absurd hi (Nat.not_lt_zero _)) (by omega)).mono ?_
    rintro e w2 ⟨rfl, rfl⟩
    rw [E0.out]
    go_wp2_with fail
    refine (zzfilled_any (some ⟨w.heap.size, 0, none⟩) w.heap.size 0 n n f a1 _ (fun _ => rfl) (by intro i hi; rw [Nat.zero_add]; exact unhide HCL i hi) (by omega)).mono ?_
    rintro e w3 ⟨rfl, rfl⟩
    go_wp2_with fail
    refine (zzfilled_any (some ⟨w.heap.size, 0, none⟩) w.heap.size 0 n n f a1 _ (fun _ => rfl) (by intro i hi; rw [Nat.zero_add]; exact unhide HCL i hi) (by omega)).mono ?_
    rintro e w4 ⟨rfl, rfl⟩
    go_wp2_with fail
    refine (zzfilled_any _ w.heap.size 0 0 _ g a1 _ (fun h => absurd h (Nat.lt_irrefl _)) (fun i hi => absurd hi (Nat.not_lt_zero _)) (by omega)).mono ?_
    rintro e w5 ⟨rfl, rfl⟩
    rw [E3.out]
    generalize allC f a1 n = l
    cases l
    all_goals
      go_wp2
      go_ret
      exact ⟨rfl, HB.out⟩
  · have hk0 : ¬ k < 0 := by omega
    go_enter Trym.func4, Trym.ntmps4
    go_wp2_with (first | (go_at_call 8; go_in) | fail)
    refine (unhide HC).mono ?_
    rintro e w1 ⟨rfl, hrow, hbel⟩
    clear HC
    have HCL := hide (fun i (hi : i < n) => hrow.cell hi)
    have HB := hide hbel
    clear hrow hbel
    go_wp2_with fail
    refine (zzfilled_any _ w.heap.size 0 0 n f a1 _ (fun h => absurd h (Nat.lt_irrefl _)) (fun i hi => absurd hi (Nat.not_lt_zero _)) (by omega)).mono ?_
    rintro e w2 ⟨rfl, rfl⟩
    rw [E0.out]
    go_wp2_with fail
    refine (zzfilled_any (some ⟨w.heap.size, 0, none⟩) w.heap.size 0 n n f a1 _ (fun _ => rfl) (by intro i hi; rw [Nat.zero_add]; exact unhide HCL i hi) (by omega)).mono ?_
    rintro e w3 ⟨rfl, rfl⟩
    go_wp2_with fail
    refine (zzfilled_any (some ⟨w.heap.size, 0, none⟩) w.heap.size 0 n n f a1 _ (fun _ => rfl) (by intro i hi; rw [Nat.zero_add]; exact unhide HCL i hi) (by omega)).mono ?_
    rintro e w4 ⟨rfl, rfl⟩
    go_wp2_with fail
    refine (zzfilled_any _ w.heap.size 0 0 _ g a1 _ (fun h => absurd h (Nat.lt_irrefl _)) (fun i hi => absurd hi (Nat.not_lt_zero _)) (by omega)).mono ?_
    rintro e w5 ⟨rfl, rfl⟩
    rw [E3.out]
    generalize allC f a1 n = l
    cases l
    all_goals
      go_wp2
      go_ret
      exact ⟨rfl, HB.out⟩

theorem walk (a0 : Option Addr) (len0 cap0 : Nat) (z0 : List Int) (a1 : Int) (a2 : Int) (w : World) (w0 : IsRow .u8 w a0 len0 cap0 z0) (w1 : (Lit.int .u8 a1).wf = true) (w2 : (Lit.int .i64 a2).wf = true) :
    Calls Trym.prog 4 #[.slice a0 len0 cap0, .int .u8 a1, .int .i64 a2] w fun e w' => e = .returned (.bool true) ∧ Below w.heap.size w w' := by
  rcases w0 with ⟨rfl, rfl, rfl, rfl⟩ | ⟨x, rfl, hl, hm, hz, hcell, _⟩
  · exact walk_nil a1 a2 w
  · by_cases hn : len0 ≤ 1048576
    · obtain ⟨b, o, spot⟩ := x
      have hx : 0 < len0 → (⟨b, o, spot⟩ : Addr) = ⟨b, o, none⟩ := fun h => by
        have hspot : spot = none := by simpa [Addr.add] using World.cell?_spot (hcell 0 (by omega))
        rw [hspot]
      have hcs : ∀ i, i < len0 → w.cell? ⟨b, o + i, none⟩ = some (.int .u8 (z0.getD i 0)) := fun i hi => by
        have hspot : spot = none := by simpa [Addr.add] using World.cell?_spot (hcell 0 (by omega))
        subst hspot
        rw [← add_plain]; exact hcell i (by omega)
      by_cases hin : a2 < (len0 : Int) ∧ 0 < len0
      · by_cases hneg : a2 < 0
        · exact walk_inside _ b o len0 cap0 (fun i => z0.getD i 0) a1 a2 0 w hx hcs hn (.inl ⟨hneg, rfl⟩) (by omega)
        · exact walk_inside _ b o len0 cap0 (fun i => z0.getD i 0) a1 a2 a2.toNat w hx hcs hn (.inr (by omega)) (by omega)
      · exact walk_end _ b o len0 cap0 (fun i => z0.getD i 0) a1 a2 w hx hcs hn (by omega)
    · exact walk_big _ _ _ _ _ _ (by omega) (by omega)

/-! ### THE ROW's STEP: WRITTEN OUT: LEAVE IT -/
set_option maxRecDepth 100000 in
theorem lifted (os : Os) (started : os.Started) (H : Type) (enc : TypeId × Value → H) :
    ReturnsInHanded {} Trym.checked os 4 .any (Rows.fnFilledSplitsAsConjunctionSpec.pre6 enc Trym.prog Trym.f4 Rows.fnFilledSplitsAsConjunctionRow.domain false) (Rows.fnFilledSplitsAsConjunctionSpec.post enc Trym.prog Trym.f4 false true false false) := by
  refine returnsInHanded_of_change (C := Trym.checked) own started (by kernel_rfl) Trym.func4
    (ChangeSpec.witness6 (enc := enc) (C := Trym.checked) false ⟨#[], #[.slice none 0 0, .int .u8 0, .int .i64 0], []⟩ 8 (by kernel_rfl) (by kernel_rfl) (by kernel_rfl) (by kernel_rfl)) ?_
  intro W base args ds gs before hval0 hW hcnd _
  have hval : ∀ (j : Nat) t v, Trym.f4.params[j]? = some t → args[j]? = some v → Value.okWide Trym.prog W .any base t v := hval0
  have hW' := hW
  obtain ⟨p, q, hA0, hV, rfl, hfz, hnd⟩ := hW
  have hA : DataW.TrodAll enc Trym.prog W 0 (fun _ => true) true Trym.f4.params.toList args.toList ds p := hA0
  rw [Trym.params4] at hA hval
  obtain ⟨v0, vs0, d0, ds0, p0, q0, hargs, rfl, rfl, h0, r0⟩ := trodAll_cons hA
  obtain ⟨v1, vs1, d1, ds1, p1, q1, rfl, rfl, rfl, h1, r1⟩ := trodAll_cons r0
  obtain ⟨v2, vs2, d2, ds2, p2, q2, rfl, rfl, rfl, h2, r2⟩ := trodAll_cons r1
  obtain ⟨rfl, rfl, rfl⟩ := trodAll_nil r2
  obtain rfl : args = #[v0, v1, v2] := by cases args; simp_all
  obtain ⟨rfl, rfl⟩ := trodVars_none hV
  obtain ⟨a0, len0, cap0, rfl⟩ := okWide_slice Trym.underlying22 (hval 0 22 v0 rfl rfl)
  have k0 := h0
  have lt0 : ∀ x ∈ p0, x.block < W.heap.size := by obtain ⟨m, hm⟩ := k0; exact DataW.trod_lt m _ _ _ hm
  obtain ⟨z0, w0⟩ : ∃ zs, IsRow .u8 W a0 len0 cap0 zs := by
    obtain ⟨fuel, hf⟩ := h0
    rcases open_ints Trym.underlying22 Trym.underlying5 (by kernel_rfl) hf with ⟨hcs, _⟩ | ⟨x, l, c, zs, hcs, _, hl, hm, hz, _, hcell, hwz⟩
    · simp [Value.cells] at hcs
      obtain ⟨rfl, rfl, rfl⟩ := hcs
      exact ⟨[], .inl ⟨rfl, rfl, rfl, rfl⟩⟩
    · simp [Value.cells] at hcs
      obtain ⟨rfl, rfl, rfl⟩ := hcs
      exact ⟨zs, .inr ⟨_, rfl, hl, hm, by simpa using hz, hcell, hwz⟩⟩
  obtain ⟨a1, rfl, rfl, rfl, w1⟩ := open_int Trym.underlying5 (hval 1 5 v1 rfl rfl) h1
  obtain ⟨a2, rfl, rfl, rfl, w2⟩ := open_int Trym.underlying3 (hval 2 3 v2 rfl rfl) h2
  clear hA0 hval0
  refine (walk a0 len0 cap0 z0 a1 a2 W w0 w1 w2).mono fun e W' ⟨he, bel⟩ => ?_
  subst he
  exact ⟨_, rfl, _, _, _, [], _, [], hW', trodAll_mk1 (shut_bool Trym.underlying4 _), (trodAll_cons_mk (Below.trod laidOut (by kernel_rfl) (of_decide_eq_true (by kernel_rfl)) k0 bel lt0) (trodAll_cons_mk (shut_int Trym.underlying5 w1) (trodAll_cons_mk (shut_int Trym.underlying3 w2) trodAll_mk0))), rfl, bel.frame _, fun h => by cases h⟩

theorem over : Rows.fnFilledSplitsAsConjunctionRow.holds Trym.pinned (OpenSpec.ofChange Rows.fnFilledSplitsAsConjunctionSpec) :=
  OpenClaim.holds_of_wide 4 Trym.f4 rfl rfl rfl rfl rfl rfl rfl ⟨rfl, rfl, rfl, rfl, rfl⟩ rfl rfl rfl rfl rfl (by kernel_rfl) Trym.func4 (by kernel_rfl)
    (of_decide_eq_true (by kernel_rfl)) (by unfold Func.isWrapper; first | (rw [if_pos (by decide +kernel)]; kernel_rfl) | (rw [if_neg (by decide +kernel)]; exact ⟨rfl, rfl⟩))
    (fun os started H enc _ => lifted os started H enc)

/-- ████ THE STATEMENT ████ -/
theorem proved : Rows.FnFilledSplitsAsConjunctionSaid := over
#print axioms proved
end Go.Proofs.Qxb6604602aMods.fnFilledSplitsAsConjunction
