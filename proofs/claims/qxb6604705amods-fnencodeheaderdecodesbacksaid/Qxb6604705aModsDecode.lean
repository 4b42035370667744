/-
  SEAT b6604705aM: the walk of FnEncodeHeaderDecodesBack.
-/
import Derived.Test.Qxb6604705aModsDec
import Derived.Test.Qxb6604705aModsBytesD
import Derived.BigQuiet
namespace Go.Proofs.Qxb6604705aMods
open Go.ChangeShapes Go.WideShapes Go.ChangeAt Go.RowKit

set_option maxRecDepth 100000 in
set_option maxHeartbeats 3200000 in
theorem decode_walk (v u : Value) (n : Nat) (S : Nat → ByteArray) (m : Nat) (L : Nat → Nat) (V : Nat → Nat → ByteArray) (w : World) (hv : Strs w v n S) (hu : Vals w u m L V) (hn : n ≤ maxLen) (hm : m ≤ maxLen) (hL : ∀ i, i < m → L i ≤ maxLen) (hS : ∀ i, i < n → (S i).size ≤ maxLen) (hV : ∀ i, i < m → ∀ j, j < L i → (V i j).size ≤ maxLen) :
    Calls Trym.prog 3 #[v, u] w fun e w' => e = .returned (.bool true) ∧ Below w.heap.size w w' := by
  have HV := hide hv
  have HU := hide hu
  have HZ := hide (zzBytesD_any v u n S m L V w hv hu hn hm hL hS hV)
  clear hL hS hV hv hu
  go_enter Trym.func3, Trym.ntmps3
  go_wp2_with fail
  refine (unhide HZ).mono ?_
  rintro e w0 ⟨⟨r, rfl, hr⟩, rfl⟩
  clear HZ
  cases r with
  | false =>
    clear hr
    go_wp2
    go_ret
    exact ⟨rfl, Below.refl _ _⟩
  | true =>
  have hB := hr rfl
  clear hr
  have HBD := hide hB
  have hn2 := hB.names
  have hm2 := hB.vals
  clear hB hn hm
  go_wp2_with fail
  refine (tooBig_any v u n S m L V _ (unhide HV) (unhide HU) (unhide HBD)).mono ?_
  rintro e w0 ⟨⟨r, rfl, -⟩, rfl⟩
  cases r with
  | true =>
    go_wp2
    go_ret
    exact ⟨rfl, Below.refl _ _⟩
  | false =>
  go_wp2_with fail
  refine (cloneStrings_any v n S _ (unhide HV) hn2).mono ?_
  rintro e w2 ⟨vn, rfl, hs2, hb2⟩
  have HS2 := hide hs2
  have HU2 := hide ((unhide HU).below hb2)
  have HB2 := hide hb2
  clear hs2 hb2 HU HV
  go_wp2_with fail
  refine (cloneVals_any u m L V _ (unhide HU2) hm2 (fun i hi => by have := (unhide HBD).val i hi; omega)).mono ?_
  rintro e w3 ⟨un, rfl, hs3, hb3⟩
  have hB3 := (unhide HB2).trans (hb3.mono (unhide HB2).size)
  have HS3 := hide ((unhide HS2).below hb3)
  obtain ⟨a1, b1, o1, cap1, f, hun, ha1, hc1⟩ := hs3
  have HC1 := hide hc1
  have HA1 := hide ha1
  have HB3 := hide hB3
  clear hb3 hB3 HS2 HU2 HB2 hc1 ha1
  rw [hun]
  clear hun
  go_wp2_with fail
  refine (build_any vn n S a1 b1 o1 m cap1 f _ (unhide HS3) hn2 hm2 (unhide HBD).name (unhide HA1) (fun i hi => (unhide HC1 i hi).1) (fun i hi => by obtain ⟨a', _, _, c', e, _⟩ := (unhide HC1 i hi).2; exact ⟨a', _, c', e⟩)).mono ?_
  rintro e w4 ⟨rfl, ⟨D, hown4, hbuilt⟩, hb4⟩
  have hB4 := (unhide HB3).trans (hb4.mono (unhide HB3).size)
  have HS4 := hide ((unhide HS3).below hb4)
  have hex := built_good hbuilt (fun i hi => (unhide HC1 i hi).2.below hb4) (unhide HBD)
  obtain ⟨F, hF⟩ := choose_strs w4
  have hgood : ∀ kl v, Maps.has D kl = true → D.atKey kl .nil = .held v → Good w4 v (F v) := fun kl v h1 h2 => by
    obtain ⟨ss, hss⟩ := hex kl v h1 h2
    exact hF v ss hss
  have HO4 := hide hown4
  have HBU := hide hbuilt
  have HG4 := hide hgood
  have HB4 := hide hB4
  obtain ⟨bm, hbm⟩ : ∃ bm, bm = w3.heap.size := ⟨_, rfl⟩
  rw [← hbm] at HO4
  rw [← hbm]
  clear hbm
  clear hown4 hbuilt hgood hB4 hex hF hb4 HS3 HB3 HC1 HA1
  go_wp2_with fail
  refine (zzencode_any bm n D F _ (unhide HO4) hn2 (key_size (unhide HBU) (unhide HBD)) (unhide HG4)).mono ?_
  rintro e W ⟨vb, order, rfl, hE⟩
  have hFr := front_mk (unhide HS4) (unhide HO4) (unhide HBD) (unhide HBU) (unhide HG4) hE (unhide HB4)
  have HFR := hide hFr
  clear hE hFr HS4 HO4 HBD HBU HG4 HB4
  have hsz := (unhide HFR).map.size_le
  have hcount := (unhide HFR).count
  have hmm : ∀ (w : World) (k : Int), (Instr.makeMap 34 (some (.int .i64 k))).run Trym.prog w = .ok (.map (some w.heap.size)) (w.alloc (.map #[] 0)) := fun w k => by
    simp [Instr.makeMap, run_underlying Trym.underlying34]
    rfl
  have hlenN := (unhide HFR).len
  have hBs := (unhide HFR).bytes
  have hRU := readUv_any vb (encBytes F (Maps.size D) order) (entsBytes F order) 1 (Maps.size D) W hBs (by omega) (by omega) (by simp [encBytes])
  have hBs2 := hBs
  obtain ⟨g, capb, hvb, hcapb, hcb⟩ := hBs2
  have hc0 : W.cell? ⟨g, 0, none⟩ = some (.int .u8 0) := by
    have := hcb 0 (by simp [encBytes])
    simpa [encBytes] using this
  obtain ⟨base, hbase⟩ : ∃ base, base = 1 + (Lib.uvarint (Maps.size D)).length := ⟨_, rfl⟩
  have hdec : ∀ (k : Nat) (h : k < order.length), (encBytes F (Maps.size D) order).drop (base + (entsBytes F (order.take k)).length) = strBytes order[k].1 ++ (Lib.uvarint (F order[k].2).length ++ (strsBytes (F order[k].2) ++ entsBytes F (order.drop (k + 1)))) := fun k h => by
    rw [hbase]; exact dec_at F (Maps.size D) order k h
  have hlenb : (encBytes F (Maps.size D) order).length = base + (entsBytes F order).length := by
    simp only [encBytes, List.length_cons, List.length_append, hbase]; omega
  obtain ⟨bs, hbs⟩ : ∃ bs, bs = encBytes F (Maps.size D) order := ⟨_, rfl⟩
  rw [← hbs] at hlenN hBs hvb hcapb hlenb
  simp only [← hbs] at hdec
  obtain ⟨N, hN⟩ : ∃ N, N = bs.length := ⟨_, rfl⟩
  rw [← hN] at hvb hcapb hlenb
  have hNb : N ≤ 14680064000011 := by rw [hN]; exact hlenN
  have hpos : 0 < N := by rw [hN, hbs]; simp [encBytes]
  have hposz : (0 : Int) < (N : Int) := by omega
  have hposz2 : ¬ (N : Int) = 0 := by omega
  rw [hvb] at hRU hBs ⊢
  rw [← hbase, show ((1 : Nat) : Int) = 1 from rfl] at hRU
  have HRU := hide hRU
  have HDEC := hide hdec
  have HLEN := hide hlenb
  have HN := hide hN
  have HBS := hide hBs
  have hul := Lib.uvarint_length64 (x := Maps.size D) (by omega)
  have hbl : base ≤ 11 := by omega
  have HCOUNT := hide hcount
  clear hRU hdec hlenb hN hBs hcb hvb hlenN hbs hbase hul hcount
  go_wp2_with fail
  refine (unhide HRU).mono ?_
  rintro e w' ⟨rfl, rfl⟩
  clear HRU
  go_wp2_with (first
    | (at_len; refine wpList_len_own _ rfl _ 27 rfl 9 22 Trym.underlying27 tokElem bm n D rfl (unhide HFR).map ?_)
    | (refine wpList_len_w _ rfl (.tmp 59) rfl bm n D rfl (unhide HFR).map ?_; go_frame)
    | fail)
  clear hmm
  go_loopw [8, 11] (fun pos f wr => DecRel F order base w' pos f wr) (fun _ f _ => order.length - (intOf f).toNat)
  case atStart => exact DecRel.mk 0 (.map []) (Nat.zero_le _) rfl (by simp [entsBytes]) ⟨World.ownsMap_made _ _ _ _, ⟨fun s => by simp [Maps.has, seenO], fun _ h => by simp [Maps.has] at h⟩, (Below.refl _ _).alloc (Nat.le_refl _) _⟩
  case round =>
    obtain ⟨k, Dc, hk, rfl, rfl, hSL⟩ := hrel
    have HSL := hide hSL
    clear hSL
    by_cases hlt : k < order.length
    · have hltz : (k : Int) < (Maps.size D : Int) := by have := unhide HCOUNT; omega
      have hd0 := unhide HDEC k hlt
      have hmem : order[k] ∈ order := List.getElem_mem hlt
      have hnew := seenO_new (unhide HFR).apart k hlt
      have hsucc := seenO_succ order k hlt
      have hes := ents_succ F order k hlt
      obtain ⟨hhas, hat⟩ := (unhide HFR).in_ _ hmem
      have hgd := (unhide HFR).good _ hmem
      have hnm : order[k].1.size ≤ 1048576 := by
        obtain ⟨i, hi, e⟩ := (unhide HFR).keys _ hmem
        rw [← e]; exact (unhide HFR).name i hi
      have hle := ents_take_le F order k
      have hle2 := ents_take_le F order (k + 1)
      have hlb := unhide HLEN
      obtain ⟨nm, hnme⟩ : ∃ nm, nm = order[k].1 := ⟨_, rfl⟩
      obtain ⟨pv, hpve⟩ : ∃ pv, pv = order[k].2 := ⟨_, rfl⟩
      obtain ⟨ss, hss⟩ : ∃ ss, ss = F pv := ⟨_, rfl⟩
      rw [← hnme] at hd0 hnew hes hhas hat hnm
      simp only [← hnme] at hsucc
      rw [← hpve] at hd0 hes hat hgd
      rw [← hss] at hd0 hes hgd
      obtain ⟨P0, hP0⟩ : ∃ P0, P0 = base + (entsBytes F (order.take k)).length := ⟨_, rfl⟩
      rw [← hP0] at hd0 ⊢
      have hd1 := drop_next hd0
      obtain ⟨P1, hP1⟩ : ∃ P1, P1 = P0 + (strBytes nm).length := ⟨_, rfl⟩
      rw [← hP1] at hd1
      have hd2 := drop_next hd1
      obtain ⟨P2, hP2⟩ : ∃ P2, P2 = P1 + (Lib.uvarint ss.length).length := ⟨_, rfl⟩
      rw [← hP2] at hd2
      have hP3 : P2 + (strsBytes ss).length = base + (entsBytes F (order.take (k + 1))).length := by omega
      have hb1 : P1 ≤ N := by omega
      have hb2 : P2 + (strsBytes ss).length ≤ N := by omega
      obtain ⟨⟨ga, gb, go, gc, hpv, hga, hgc⟩, htot⟩ := hgd
      rw [hpv] at hat
      have hssl : ss.length ≤ 1048576 := by omega
      have hC1 := readStr_any _ bs _ P0 nm wr ((unhide HBS).below (unhide HSL).bel) (by have := unhide HN; omega) hnm hd0
      rw [← hP1] at hC1
      have HC1 := hide hC1
      have HHAS := hide hhas
      have HAT := hide hat
      have HP3 := hide hP3
      have HGA := hide hga
      have HGC := hide hgc
      have HD1 := hide hd1
      have HD2 := hide hd2
      have HSU := hide hsucc
      have HP2 := hide hP2
      have hb2' : P2 ≤ 14680064000011 := by omega
      clear hC1 hhas hat hP3 hga hgc hd1 hd2 hd0 hsucc hes hle hle2 hlb hP0 hP1 hP2 hmem hss hpve hnme hpv hb1
      go_wp2_with fail
      refine (unhide HC1).mono ?_
      rintro e w2 ⟨rfl, rfl⟩
      clear HC1
      go_wp2_with (first
        | (refine wpList_lookup_bool _ rfl (.tmp 82) (.tmp 83) rfl w'.heap.size k (seenO order k) Dc rfl (unhide HSL).owns (unhide HSL).cnt nm rfl hnm ?_; go_frame; rw [hnew])
        | (at_mapUpdate; refine wpList_mapUpdate_own _ rfl _ _ _ 34 rfl 9 4 law Trym.underlying34 _ w'.heap.size k _ rfl (unhide HSL).owns (by unfold maxLen; omega) _ _ _ rfl rfl (keyOf_str hnm) _ [] (plainElem_bool Trym.underlying4 true) ?_; intro w1 hown1 hgrow1; have hbel1 := (unhide HSL).bel.grown hgrow1 (unhide HSL).bel.size (fun j hj => by cases hj; exact Nat.le_refl _); have hmap1 := ownsMap_below (unhide HFR).map hbel1; go_frame)
        | (at_lookup; refine wpList_lookup_tok_ok _ rfl (.tmp 89) (.tmp 90) rfl bm n D rfl (by assumption) nm rfl hnm _ (unhide HHAS) (unhide HAT) ?_; go_frame)
        | fail)
      have hC2 := readUv_any _ bs _ P1 ss.length w1 ((unhide HBS).below hbel1) (by have := unhide HN; omega) (by omega) (unhide HD1)
      rw [← unhide HP2] at hC2
      refine hC2.mono ?_
      rintro e w2 ⟨rfl, rfl⟩
      have hSL2 : DecLoop (seenO order (k + 1)) (k + 1) (Dc.put (keyLit nm) (.lit (.bool true))) w' w2 :=
        ⟨hown1, (unhide HSL).cnt.step (unhide HSL).owns.isMap nm (unhide HSU), hbel1⟩
      have HSL2 := hide hSL2
      clear hSL2 hown1 hgrow1 hbel1 hmap1 HSL hC2
      obtain ⟨Dc2, hDc2⟩ : ∃ Dc2, Dc2 = Dc.put (keyLit nm) (.lit (.bool true)) := ⟨_, rfl⟩
      rw [← hDc2] at HSL2
      clear hDc2
      go_wp2
      go_loopw [8, 20] (fun pos i wx => DecIn ss P2 (seenO order (k + 1)) (k + 1) Dc2 w' pos i wx) (fun _ i _ => ss.length - (intOf i).toNat)
      case atStart => exact DecIn.mk 0 (Nat.zero_le _) rfl (by simp [strsBytes]) (unhide HSL2)
      case round =>
        obtain ⟨t, ht, rfl, rfl, hI⟩ := hrel
        have HI := hide hI
        clear hI HSL2
        by_cases hlt2 : t < ss.length
        · obtain rfl := unhide HGA (by omega)
          have hcell2 := cell_later' (unhide HI).bel (unhide HGC t hlt2)
          have hsz2 : (nth ss t).size ≤ 1048576 := by rw [nth_eq hlt2]; have := size_le_total (List.getElem_mem hlt2); omega
          have hltz2 : (t : Int) < (ss.length : Int) := by omega
          have hsn : (strsBytes (ss.take (t + 1))).length = (strsBytes (ss.take t)).length + (strBytes (nth ss t)).length := by
            rw [strsBytes_snoc ss t hlt2, List.length_append]
          have hC3 := readStr_any _ bs _ (P2 + (strsBytes (ss.take t)).length) (nth ss t) wr ((unhide HBS).below (unhide HI).bel) (by have := unhide HN; omega) hsz2 (str_at (unhide HD2) t hlt2)
          rw [Nat.add_assoc, ← hsn] at hC3
          have HC3 := hide hC3
          clear hC3 hsn
          obtain ⟨P3, hP3⟩ : ∃ P3, P3 = P2 + (strsBytes (ss.take t)).length := ⟨_, rfl⟩
          obtain ⟨P4, hP4⟩ : ∃ P4, P4 = P2 + (strsBytes (ss.take (t + 1))).length := ⟨_, rfl⟩
          rw [← hP3, ← hP4] at HC3
          rw [← hP3]
          have HP4 := hide hP4
          clear hP3 hP4
          go_wp2_with fail
          refine (unhide HC3).mono ?_
          rintro e w3 ⟨rfl, rfl⟩
          clear HC3
          go_wp2
          go_roundw
          case rel => exact DecIn.mk (t + 1) (by omega) (by go_num) (by rw [unhide HP4]) (unhide HI)
          case measure => simp [intOf]; omega
        · have hltz2 : ¬ (t : Int) < (ss.length : Int) := by omega
          have hfin : P2 + (strsBytes (ss.take t)).length = base + (entsBytes F (order.take (k + 1))).length := by
            rw [List.take_of_length_le (by omega)]; exact unhide HP3
          rw [hfin]
          clear hfin
          go_wp2
          go_roundw
          case rel => exact DecRel.mk (k + 1) _ (by omega) (by go_num) (by go_num) (unhide HI)
          case measure => simp [intOf]; omega
    · have hltz : ¬ (k : Int) < (Maps.size D : Int) := by have := unhide HCOUNT; omega
      have hbelr : Below w0.heap.size w0 wr := (unhide HFR).bel.trans ((unhide HSL).bel.mono (unhide HFR).bel.size)
      have hfin : base + (entsBytes F (order.take k)).length = N := by
        rw [List.take_of_length_le (by omega)]; exact (unhide HLEN).symm
      rw [hfin]
      have HBR := hide hbelr
      clear hbelr hfin
      go_wp2
      go_ret
      exact ⟨by simp, unhide HBR⟩

end Go.Proofs.Qxb6604705aMods
