/-
  SEAT b6604705aM: the walk of FnEncodeHeaderSize.
-/
import Derived.Test.Qxb6604705aModsFront
import Derived.Test.Qxb6604705aModsBytesS
import Derived.BigQuiet
namespace Go.Proofs.Qxb6604705aMods
open Go.ChangeShapes Go.WideShapes Go.ChangeAt Go.RowKit

/-- What the law's loop keeps of memory. -/
structure SizeLoop (seen : ByteArray → Bool) (k : Nat) (Dc : DataW Unit) (W wr : World) : Prop where
  owns : wr.ownsMap Trym.prog 9 (plainElem Trym.prog 4) W.heap.size k Dc
  cnt : Counted seen Dc
  bel : Below W.heap.size W wr

theorem SizeLoop.drewN {seen : ByteArray → Bool} {k : Nat} {Dc : DataW Unit} {W wr : World} (h : SizeLoop seen k Dc W wr) (q : Nat) : SizeLoop seen k Dc W (wr.drewN q) :=
  ⟨h.owns, h.cnt, below_drewN h.bel q⟩

/-- The law's loop over the names. -/
def OuterRel (n base : Nat) (Z : Nat → Nat) (S : Nat → ByteArray) (W : World) (z i : Value) (wr : World) : Prop :=
  ∃ (k : Nat) (Dc : DataW Unit), k ≤ n ∧ i = .int .i64 k ∧ z = .int .i64 ((base + Z k : Nat) : Int) ∧ SizeLoop (seenB S k) k Dc W wr
theorem OuterRel.mk {n base : Nat} {Z : Nat → Nat} {S : Nat → ByteArray} {W : World} {z i : Value} {wr : World} (k : Nat) (Dc : DataW Unit) (h1 : k ≤ n) (h2 : i = .int .i64 k) (h3 : z = .int .i64 ((base + Z k : Nat) : Int)) (h4 : SizeLoop (seenB S k) k Dc W wr) : OuterRel n base Z S W z i wr := ⟨k, Dc, h1, h2, h3, h4⟩

/-- .. over one name's values. -/
def InnerRel (ss : List ByteArray) (pre : Nat) (seen : ByteArray → Bool) (k : Nat) (Dc : DataW Unit) (W : World) (z i : Value) (wr : World) : Prop :=
  ∃ t : Nat, t ≤ ss.length ∧ i = .int .i64 t ∧ z = .int .i64 ((pre + (strsBytes (ss.take t)).length : Nat) : Int) ∧ SizeLoop seen k Dc W wr
theorem InnerRel.mk {ss : List ByteArray} {pre : Nat} {seen : ByteArray → Bool} {k : Nat} {Dc : DataW Unit} {W : World} {z i : Value} {wr : World} (t : Nat) (h1 : t ≤ ss.length) (h2 : i = .int .i64 t) (h3 : z = .int .i64 ((pre + (strsBytes (ss.take t)).length : Nat) : Int)) (h4 : SizeLoop seen k Dc W wr) : InnerRel ss pre seen k Dc W z i wr := ⟨t, h1, h2, h3, h4⟩

set_option maxRecDepth 100000 in
set_option maxHeartbeats 3200000 in
theorem size_walk (v u : Value) (n : Nat) (S : Nat → ByteArray) (m : Nat) (L : Nat → Nat) (V : Nat → Nat → ByteArray) (w : World) (hv : Strs w v n S) (hu : Vals w u m L V) (hn : n ≤ maxLen) (hm : m ≤ maxLen) (hL : ∀ i, i < m → L i ≤ maxLen) (hS : ∀ i, i < n → (S i).size ≤ maxLen) (hV : ∀ i, i < m → ∀ j, j < L i → (V i j).size ≤ maxLen) :
    Calls Trym.prog 4 #[v, u] w fun e w' => e = .returned (.bool true) ∧ Below w.heap.size w w' := by
  have HV := hide hv
  have HU := hide hu
  have HZ := hide (zzBytesS_any v u n S m L V w hv hu hn hm hL hS hV)
  clear hL hS hV hv hu
  go_enter Trym.func4, Trym.ntmps4
  go_wp2_with fail
  refine (unhide HZ).mono ?_
  rintro e w0 ⟨⟨r, rfl, hr⟩, rfl⟩
  clear HZ
  cases r with
  | false =>
    clear hr
    go_wp2
    go_ret
    exact ⟨rfl, Below.refl _ _⟩
  | true =>
  have hB := hr rfl
  clear hr
  have HBD := hide hB
  have hn2 := hB.names
  have hm2 := hB.vals
  clear hB hn hm
  go_wp2_with fail
  refine (tooBig_any v u n S m L V _ (unhide HV) (unhide HU) (unhide HBD)).mono ?_
  rintro e w0 ⟨⟨r, rfl, -⟩, rfl⟩
  cases r with
  | true =>
    go_wp2
    go_ret
    exact ⟨rfl, Below.refl _ _⟩
  | false =>
  go_wp2_with fail
  refine (cloneStrings_any v n S _ (unhide HV) hn2).mono ?_
  rintro e w2 ⟨vn, rfl, hs2, hb2⟩
  have HS2 := hide hs2
  have HU2 := hide ((unhide HU).below hb2)
  have HB2 := hide hb2
  clear hs2 hb2 HU HV
  go_wp2_with fail
  refine (cloneVals_any u m L V _ (unhide HU2) hm2 (fun i hi => by have := (unhide HBD).val i hi; omega)).mono ?_
  rintro e w3 ⟨un, rfl, hs3, hb3⟩
  have hB3 := (unhide HB2).trans (hb3.mono (unhide HB2).size)
  have HS3 := hide ((unhide HS2).below hb3)
  obtain ⟨a1, b1, o1, cap1, f, hun, ha1, hc1⟩ := hs3
  have HC1 := hide hc1
  have HA1 := hide ha1
  have HB3 := hide hB3
  clear hb3 hB3 HS2 HU2 HB2 hc1 ha1
  rw [hun]
  clear hun
  go_wp2_with fail
  refine (build_any vn n S a1 b1 o1 m cap1 f _ (unhide HS3) hn2 hm2 (unhide HBD).name (unhide HA1) (fun i hi => (unhide HC1 i hi).1) (fun i hi => by obtain ⟨a', _, _, c', e, _⟩ := (unhide HC1 i hi).2; exact ⟨a', _, c', e⟩)).mono ?_
  rintro e w4 ⟨rfl, ⟨D, hown4, hbuilt⟩, hb4⟩
  have hB4 := (unhide HB3).trans (hb4.mono (unhide HB3).size)
  have HS4 := hide ((unhide HS3).below hb4)
  have hex := built_good hbuilt (fun i hi => (unhide HC1 i hi).2.below hb4) (unhide HBD)
  obtain ⟨F, hF⟩ := choose_strs w4
  have hgood : ∀ kl v, Maps.has D kl = true → D.atKey kl .nil = .held v → Good w4 v (F v) := fun kl v h1 h2 => by
    obtain ⟨ss, hss⟩ := hex kl v h1 h2
    exact hF v ss hss
  have HO4 := hide hown4
  have HBU := hide hbuilt
  have HG4 := hide hgood
  have HB4 := hide hB4
  obtain ⟨bm, hbm⟩ : ∃ bm, bm = w3.heap.size := ⟨_, rfl⟩
  rw [← hbm] at HO4
  rw [← hbm]
  clear hbm
  clear hown4 hbuilt hgood hB4 hex hF hb4 HS3 HB3 HC1 HA1
  go_wp2_with fail
  refine (zzencode_any bm n D F _ (unhide HO4) hn2 (key_size (unhide HBU) (unhide HBD)) (unhide HG4)).mono ?_
  rintro e W ⟨vb, order, rfl, hE⟩
  have hFr := front_mk (unhide HS4) (unhide HO4) (unhide HBD) (unhide HBU) (unhide HG4) hE (unhide HB4)
  have HFR := hide hFr
  clear hE hFr HS4 HO4 HBD HBU HG4 HB4
  have hsz := (unhide HFR).map.size_le
  have hmm : ∀ (w : World) (k : Int), (Instr.makeMap 34 (some (.int .i64 k))).run Trym.prog w = .ok (.map (some w.heap.size)) (w.alloc (.map #[] 0)) := fun w k => by
    simp [Instr.makeMap, run_underlying Trym.underlying34]
    rfl
  obtain ⟨an, bn, on, cn, hvn, han, hcn⟩ := (unhide HFR).strs
  rw [hvn]
  have HAN := hide han
  have HCN := hide hcn
  clear hvn han hcn
  have hul := Lib.uvarint_length64 (x := Maps.size D) (by omega)
  go_wp2_with (at_len; refine wpList_len_own _ rfl _ 27 rfl 9 22 Trym.underlying27 tokElem bm n D rfl (unhide HFR).map ?_)
  refine (uvLen_any (Maps.size D) (by omega) _).mono ?_
  rintro e w' ⟨rfl, rfl⟩
  go_wp2
  clear hmm
  obtain ⟨base, hbase⟩ : ∃ base, base = 1 + (Lib.uvarint (Maps.size D)).length := ⟨_, rfl⟩
  obtain ⟨Z, hZ⟩ : ∃ Z : Nat → Nat, ∀ k, Z k = sumIf (seenB S k) (fun p => (entBytes F p).length) order := ⟨_, fun _ => rfl⟩
  have hlenb : (encBytes F (Maps.size D) order).length = base + (entsBytes F order).length := by
    simp only [encBytes, List.length_cons, List.length_append, hbase]; omega
  have hZle : ∀ k, Z k ≤ 14680064000011 := fun k => by
    have h1 := (unhide HFR).len
    have h2 := sumIf_le (f := seenB S k) (F := F) order
    rw [hZ]; omega
  have hbl : base ≤ 11 := by omega
  have HBASE := hide hbase
  have HZZ := hide hZ
  have HZL := hide hZle
  have HLEN := hide hlenb
  clear hbase hZ hZle hlenb
  have ez0 : (1 : Int) + ((Lib.uvarint (Maps.size D)).length : Int) = ((base + Z 0 : Nat) : Int) := by
    have h1 := unhide HBASE
    have h2 : Z 0 = 0 := by
      rw [unhide HZZ, sumIf_congr (g := fun _ => false) _ (fun p _ => by simp [seenB])]
      generalize order = l
      induction l with
      | nil => rfl
      | cons p l ih => simp [sumIf, ih]
    omega
  rw [ez0]
  clear ez0
  go_loopw [7, 9] (fun z i wr => OuterRel n base Z S w' z i wr) (fun _ i _ => n - (intOf i).toNat)
  case atStart => exact OuterRel.mk 0 (.map []) (Nat.zero_le _) rfl rfl ⟨World.ownsMap_made _ _ _ _, ⟨fun s => by simp [Maps.has, seenB], fun _ h => by simp [Maps.has] at h⟩, (Below.refl _ _).alloc (Nat.le_refl _) _⟩
  case round =>
    obtain ⟨k, Dc, hk, rfl, rfl, hSL⟩ := hrel
    have HSL := hide hSL
    clear hSL
    by_cases hlt : k < n
    · obtain rfl := unhide HAN (by omega)
      have hltz : (k : Int) < (n : Int) := by omega
      have hcell := cell_later' (unhide HSL).bel (unhide HCN k hlt)
      have hsk := (unhide HFR).name k hlt
      cases hseen : seenB S k (S k) with
      | true =>
        go_wp2_with (first
          | (at_lookup; refine wpList_lookup_bool _ rfl _ _ rfl w'.heap.size k (seenB S k) Dc rfl (unhide HSL).owns (unhide HSL).cnt (S k) rfl hsk ?_; go_frame; rw [hseen])
          | fail)
        go_roundw
        case rel =>
          have hold := seenB_old hseen
          refine OuterRel.mk (k + 1) Dc (by omega) (by go_num) ?_ ⟨(unhide HSL).owns.mono (by omega), ⟨fun s => by rw [hold]; exact (unhide HSL).cnt.has s, (unhide HSL).cnt.val⟩, (unhide HSL).bel⟩
          rw [unhide HZZ (k + 1), sumIf_congr _ (fun p _ => hold p.1), ← unhide HZZ k]
        case measure => simp [intOf]; omega
      | false =>
        -- the field that the name leads to
        have hhas := (unhide HFR).has k hlt
        obtain ⟨p, hp, hpk⟩ := (unhide HFR).out _ hhas
        obtain ⟨pk, pv⟩ := p
        have epk : S k = pk := keyLit_inj hpk
        subst epk
        have hat := ((unhide HFR).in_ _ hp).2
        have hgd := ((unhide HFR).good _ hp)
        have hZk : Z (k + 1) = Z k + (entBytes F (S k, pv)).length := by
          rw [unhide HZZ, unhide HZZ, sumIf_new _ (unhide HFR).apart hp hseen]
        obtain ⟨ss, hss⟩ : ∃ ss, ss = F pv := ⟨_, rfl⟩
        have hent : (entBytes F (S k, pv)).length = (Lib.uvarint (S k).size).length + (S k).size + (Lib.uvarint ss.length).length + (strsBytes ss).length := by
          simp only [entBytes, List.length_append, strBytes_length, hss]; omega
        simp only at hgd
        rw [← hss] at hgd
        obtain ⟨⟨ga, gb, go, gc, hpv, hga, hgc⟩, htot⟩ := hgd
        subst hpv
        have hzk := unhide HZL (k + 1)
        have hu1 := Lib.uvarint_length64 (x := (S k).size) (by omega)
        have hu2 := Lib.uvarint_length64 (x := ss.length) (by omega)
        have hsl := strsBytes_le ss (by omega)
        have hz0 := unhide HZL k
        have HHAS := hide hhas
        have HAT := hide hat
        have HZK := hide hZk
        have HENT := hide hent
        have HGA := hide hga
        have HGC := hide hgc
        have hssl : ss.length ≤ 1048576 := by omega
        clear hhas hat hZk hent hga hgc hp hpk hss
        go_wp2_with (first
          | (at_lookup; refine wpList_lookup_bool _ rfl (.tmp 50) (.tmp 51) rfl w'.heap.size k (seenB S k) Dc rfl (unhide HSL).owns (unhide HSL).cnt (S k) rfl hsk ?_; go_frame; rw [hseen])
          | (at_mapUpdate; refine wpList_mapUpdate_own _ rfl _ _ _ 34 rfl 9 4 law Trym.underlying34 _ w'.heap.size k _ rfl (unhide HSL).owns (by unfold maxLen; omega) _ _ _ rfl rfl (keyOf_str hsk) _ [] (plainElem_bool Trym.underlying4 true) ?_; intro w1 hown1 hgrow1; have hbel1 := (unhide HSL).bel.grown hgrow1 (unhide HSL).bel.size (fun j hj => by cases hj; exact Nat.le_refl _); have hmap1 := ownsMap_below (unhide HFR).map hbel1; go_frame)
          | (at_lookup; refine wpList_lookup_tok _ rfl (.tmp 55) (.tmp 56) rfl bm n D rfl (by assumption) (S k) rfl hsk _ (unhide HHAS) (unhide HAT) ?_; go_frame)
          | fail)
        refine (uvLen_any (S k).size (by omega) _).mono ?_
        rintro e w2 ⟨rfl, rfl⟩
        go_wp2_with fail
        refine (uvLen_any ss.length (by omega) _).mono ?_
        rintro e w2 ⟨rfl, rfl⟩
        have hSL2 : SizeLoop (seenB S (k + 1)) (k + 1) (Dc.put (keyLit (S k)) (.lit (.bool true))) w' w2 :=
          ⟨hown1, (unhide HSL).cnt.step (unhide HSL).owns.isMap (S k) (seenB_succ S k), hbel1⟩
        have HSL2 := hide hSL2
        clear hSL2 hown1 hgrow1 hbel1 hmap1 HSL hcell
        obtain ⟨Dc2, hDc2⟩ : ∃ Dc2, Dc2 = Dc.put (keyLit (S k)) (.lit (.bool true)) := ⟨_, rfl⟩
        rw [← hDc2] at HSL2
        clear hDc2
        obtain ⟨hd, hhd⟩ : ∃ hd, hd = (Lib.uvarint (S k).size).length + (S k).size + (Lib.uvarint ss.length).length := ⟨_, rfl⟩
        have hhd2 : hd ≤ 2000000 := by omega
        have HHD := hide hhd
        clear hhd
        go_wp2
        go_loopw [7, 12] (fun z i wx => InnerRel ss (base + Z k + hd) (seenB S (k + 1)) (k + 1) Dc2 w' z i wx) (fun _ i _ => ss.length - (intOf i).toNat)
        case atStart =>
          refine InnerRel.mk 0 (Nat.zero_le _) rfl ?_ (unhide HSL2)
          have h1 := unhide HHD
          have h2 : (strsBytes (ss.take 0)).length = 0 := by simp [strsBytes]
          rw [h2]
          go_num
        case round =>
          obtain ⟨t, ht, rfl, rfl, hI⟩ := hrel
          have HI := hide hI
          clear hI HSL2
          by_cases hlt2 : t < ss.length
          · obtain rfl := unhide HGA (by omega)
            have hcell2 := cell_later' (unhide HI).bel (unhide HGC t hlt2)
            have hsz2 : (nth ss t).size ≤ 1048576 := by rw [nth_eq hlt2]; have := size_le_total (List.getElem_mem hlt2); omega
            have htt := total_take_le ss t
            have hpl := strsBytes_le (ss.take t) (by omega)
            have htl : (ss.take t).length ≤ ss.length := List.length_take_le' _ _
            have hltz2 : (t : Int) < (ss.length : Int) := by omega
            have hu3 := Lib.uvarint_length64 (x := (nth ss t).size) (by omega)
            have hsn : (strsBytes (ss.take (t + 1))).length = (strsBytes (ss.take t)).length + ((Lib.uvarint (nth ss t).size).length + (nth ss t).size) := by
              rw [strsBytes_snoc ss t hlt2, List.length_append, strBytes_length]
            have hpre : (strsBytes (ss.take t)).length ≤ 20000000 := by omega
            have HSN := hide hsn
            clear hsn htt hpl htl
            go_wp2_with fail
            go_quiet ((go_at_call 16; exact Calls.quiet_of_same (uvLen_any _ (by omega) _)))
            go_wp2
            go_roundw
            case rel => exact InnerRel.mk (t + 1) (by omega) (by go_num) (by rw [unhide HSN]; go_num) ((unhide HI).drewN _)
            case measure => simp [intOf]; omega
          · have hltz2 : ¬ (t : Int) < (ss.length : Int) := by omega
            have hfin : base + Z k + hd + (strsBytes (ss.take t)).length = base + Z (k + 1) := by
              rw [List.take_of_length_le (by omega), unhide HZK, unhide HENT, unhide HHD]; omega
            rw [hfin]
            clear hfin
            go_wp2
            go_roundw
            case rel => exact OuterRel.mk (k + 1) _ (by omega) (by go_num) (by go_num) (unhide HI)
            case measure => simp [intOf]; omega
    · obtain rfl : k = n := by omega
      have hltz : ¬ (k : Int) < (k : Int) := by omega
      have hBs := (unhide HFR).bytes.below (unhide HSL).bel
      have hZn : (encBytes F (Maps.size D) order).length = base + Z k := by
        rw [unhide HLEN, unhide HZZ, sumIf_all (fun p hp => by
          obtain ⟨i, hi, e⟩ := (unhide HFR).keys p hp
          exact seenB_iff.2 ⟨i, hi, e⟩)]
      have hmapr := ownsMap_below (unhide HFR).map (unhide HSL).bel
      have hlenN := (unhide HFR).len
      have hbelr : Below w0.heap.size w0 wr := (unhide HFR).bel.trans ((unhide HSL).bel.mono (unhide HFR).bel.size)
      have hRU := readUv_any vb (encBytes F (Maps.size D) order) (entsBytes F order) 1 (Maps.size D) wr hBs (by omega) (by omega) (by simp [encBytes])
      obtain ⟨g, capb, hvb, hcapb, hcb⟩ := hBs
      have hc0 : wr.cell? ⟨g, 0, none⟩ = some (.int .u8 0) := by
        have := hcb 0 (by simp [encBytes])
        simpa [encBytes] using this
      obtain ⟨N, hN⟩ : ∃ N, N = (encBytes F (Maps.size D) order).length := ⟨_, rfl⟩
      rw [← hN] at hvb hlenN hcapb
      rw [hvb] at hRU
      have hNz : N = base + Z k := by rw [hN]; exact hZn
      have hpos : 0 < N := by rw [hN]; simp [encBytes]
      have t1 : ((N : Int) != (base : Int) + (Z k : Int)) = false := by simp; omega
      have hposz : (0 : Int) < (N : Int) := by omega
      rw [hvb]
      have HRU := hide hRU
      have HMR := hide hmapr
      have HBR := hide hbelr
      clear hRU hmapr hbelr hZn hcb hN hNz hvb HFR HSL
      go_wp2_with fail
      rw [show ((1 : Nat) : Int) = 1 from rfl] at HRU
      refine (unhide HRU).mono ?_
      rintro e w9 ⟨rfl, rfl⟩
      clear HRU
      go_wp2_with (first
        | (refine wpList_len_w _ rfl (.tmp 112) rfl bm k D rfl (unhide HMR) ?_; go_frame)
        | fail)
      go_ret
      exact ⟨by simp, unhide HBR⟩

end Go.Proofs.Qxb6604705aMods
