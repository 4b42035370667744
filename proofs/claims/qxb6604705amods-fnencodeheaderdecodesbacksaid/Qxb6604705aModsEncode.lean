/-
  SEAT b6604705aM: the walks of encodeHeader and ZZencodeHeader.
-/
import Derived.Test.Qxb6604705aModsPlain
namespace Go.Proofs.Qxb6604705aMods
open Go.ChangeShapes Go.WideShapes Go.ChangeAt Go.RowKit

theorem cell_later' {B : Nat} {w wx : World} {a : Addr} {v : Value} (hb : Below B w wx) (h : w.cell? a = some v) (hB : B = w.heap.size := by rfl) : wx.cell? a = some v := by
  subst hB
  exact cell_later hb h

/-- The range goes on while rows of bytes grow. -/
theorem ranges_grows {B : Nat} {w w' : World} {b r n : Nat} {D : DataW Value} {left : Lit → Bool} {cnt : Nat} (h : w.ranges Trym.prog 9 tokElem b r n D left cnt) (hg : Grows B w w') : w'.ranges Trym.prog 9 tokElem b r n D left cnt := by
  obtain ⟨es, clock, since, seen, c0, hb, F, hs, hD, hr, rest⟩ := h
  exact ⟨es, clock, since, seen, c0, hg.other b _ hb rfl, F, hs, hD, hg.other r _ hr rfl, rest⟩

/-- The whole encoding. -/
def encBytes (F : Value → List ByteArray) (k : Nat) (l : List (ByteArray × Value)) : List UInt8 := 0 :: (Lib.uvarint k ++ entsBytes F l)

/-- What encodeHeader hands back: bytes that begin with 0 and the number of fields; each field once, in some order. -/
structure Encoded (D : DataW Value) (F : Value → List ByteArray) (w : World) (v : Value) (w' : World) (order : List (ByteArray × Value)) : Prop where
  apart : order.Pairwise (fun p q => p.1 ≠ q.1)
  in_ : ∀ p ∈ order, Maps.has D (keyLit p.1) = true ∧ D.atKey (keyLit p.1) .nil = .held p.2
  out : ∀ kl, Maps.has D kl = true → ∃ p ∈ order, kl = keyLit p.1
  count : order.length = Maps.size D
  bytes : w'.ownsRow w.heap.size 5 1 v (encBytes F (Maps.size D) order).length (Lib.byteCells (encBytes F (Maps.size D) order))
  below : Below w.heap.size w w'

/-- The step of a range over the map. -/
theorem wpList_next_tok (w : World) {ops : Array Oper} {rest : List Oper} {o : Oper} {a : Act} {Q : Exit → Act → World → Prop} (hg : o.guard = none) (it : Operand) (hop : o.op = Op.next it false) (b r n : Nat) (D : DataW Value) (left : Lit → Bool) (cnt : Nat)
    (hit : a.eval it = .pointer (some ⟨r, 0, none⟩)) (h : w.ranges Trym.prog 9 tokElem b r n D left cnt)
    (hDone : (∀ kl, left kl = false) → wpList Trym.prog ops Q rest (a.put o.dst (.tuple #[.bool false])) w)
    (hMore : ∀ (x : ByteArray) (ca : Option Addr) (cn cc : Nat) (w' : World) (cnt' : Nat), left (keyLit x) = true → (∀ zd, D.atKey (keyLit x) zd = .held (.slice ca cn cc)) → w'.ranges Trym.prog 9 tokElem b r n D (fun z => left z && !z.sameKey (keyLit x)) cnt' → cnt' < cnt →
      w.grownBy w' (some r) → (Instr.entry (.pointer (some ⟨r, 0, none⟩))).run Trym.prog w' = .ok (.tuple #[.string x, .slice ca cn cc]) w' → wpList Trym.prog ops Q rest (a.put o.dst (.tuple #[.bool true, .string x, .slice ca cn cc])) w') :
    wpList Trym.prog ops Q (o :: rest) a w :=
  wpList_next_ranges w hg it hop 9 law tokElem (fun s : ByteArray => Value.string s) (fun t : Option Addr × Nat × Nat => Value.slice t.1 t.2.1 t.2.2)
    (fun key kl hk => by obtain ⟨s, e, _⟩ := keyOf_inv hk; exact ⟨s, e⟩) (fun v y hv => by obtain ⟨a', n', c', e, _⟩ := tokElem_inv hv; exact ⟨(a', n', c'), e⟩) b r n D left cnt hit h
    (fun _ hl => hDone hl) (fun x c kl y w' cnt' hk hl hv hat hr hlt hgr _ hen => by
      obtain ⟨s, e1, e2⟩ := keyOf_inv hk
      cases e1
      obtain ⟨_, _, _, _, e3⟩ := tokElem_inv hv
      rw [e2] at hl hat hr
      exact hMore x c.1 c.2.1 c.2.2 w' cnt' hl (fun zd => by rw [hat zd, e3]) hr hlt hgr hen)

/-- What the loop of encodeHeader keeps. -/
structure EncLoop (D : DataW Value) (F : Value → List ByteArray) (bm r n : Nat) (w : World) (s : Value) (wr : World) (left : Lit → Bool) (cnt : Nat) (done : List (ByteArray × Value)) : Prop where
  rng : wr.ranges Trym.prog 9 tokElem bm r n D left cnt
  enc : Enc D left cnt done
  row : wr.ownsRow w.heap.size 5 1 s (encBytes F (Maps.size D) done).length (Lib.byteCells (encBytes F (Maps.size D) done))
  bel : Below w.heap.size w wr

theorem encBytes_nil (F : Value → List ByteArray) (k : Nat) : encBytes F k [] = 0 :: Lib.uvarint k := by simp [encBytes, entsBytes]
theorem encBytes_snoc (F : Value → List ByteArray) (k : Nat) (l : List (ByteArray × Value)) (p : ByteArray × Value) : encBytes F k (l ++ [p]) = encBytes F k l ++ entBytes F p := by
  simp [encBytes, entsBytes_snoc]

theorem encBytes_le {F : Value → List ByteArray} {k : Nat} {l : List (ByteArray × Value)} (hk : k ≤ 1048576) (hl : l.length ≤ 1048576) (h : ∀ p ∈ l, p.1.size ≤ 1048576 ∧ (F p.2).length + total (F p.2) ≤ 1048576) : (encBytes F k l).length ≤ 14680064000011 := by
  have a := Lib.uvarint_length64 (x := k) (by omega)
  have b := entsBytes_le (F := F) l h
  simp only [encBytes, List.length_cons, List.length_append]
  omega

/-- A step of the range writes no row of bytes. -/
theorem row_step {B n : Nat} {s : Value} {xs : List Value} {w w' : World} {bm r k : Nat} {D : DataW Value} {left : Lit → Bool} {cnt : Nat} (h : w.ownsRow B 5 1 s n xs) (hr : w.ranges Trym.prog 9 tokElem bm r k D left cnt) (hg : w.grownBy w' (some r)) : w'.ownsRow B 5 1 s n xs := by
  refine h.kept hg ?_
  rcases h.2 with ⟨rfl, _⟩ | ⟨g, cap, cur, rfl, _, hc, _⟩
  · exact .inl rfl
  · right
    intro e
    simp [Value.ownBlock] at e
    obtain ⟨es, clock, since, seen, c0, _, _, _, _, hit, _⟩ := hr
    rw [← e, hc] at hit
    cases hit

/-- What the inner loop keeps: the first t values are laid down. -/
structure Inner (D : DataW Value) (bm r n : Nat) (w : World) (s : Value) (wr : World) (left : Lit → Bool) (cnt : Nat) (bs : List UInt8) : Prop where
  rng : wr.ranges Trym.prog 9 tokElem bm r n D left cnt
  row : wr.ownsRow w.heap.size 5 1 s bs.length (Lib.byteCells bs)
  bel : Below w.heap.size w wr

set_option maxHeartbeats 3200000 in
theorem encode_any (bm n : Nat) (D : DataW Value) (F : Value → List ByteArray) (w : World) (hown : w.ownsMap Trym.prog 9 tokElem bm n D) (hn : n ≤ 1048576)
    (hkeys : ∀ s, Maps.has D (keyLit s) = true → s.size ≤ 1048576) (hgood : ∀ kl v, Maps.has D kl = true → D.atKey kl .nil = .held v → Good w v (F v)) :
    Calls Trym.prog 27 #[.map (some bm)] w fun e w' => ∃ v order, e = .returned v ∧ Encoded D F w v w' order := by
  have hsz := hown.size_le
  have hbm := hown.lt
  have HENT := hide (hown.entries law)
  have HK := hide hkeys
  have HG := hide hgood
  clear hkeys hgood
  have hul := Lib.uvarint_length64 (x := Maps.size D) (by omega)
  go_enter Trym.func27, Trym.ntmps27
  go_wp2_with (at_len; refine wpList_len_own _ rfl _ 55 rfl 9 22 Trym.underlying55 tokElem bm n D rfl (hown.alloc _) ?_)
  refine (appendUvarint_any w.heap.size 1 (Maps.size D) (by omega) _ [.int .u8 0] _ (World.ownsRow_lit w #[.int .u8 0] 1 (Nat.le_refl _) (by decide) rfl) (by simp) (by omega)).mono ?_
  rintro e w1 ⟨v1, rfl, hown1, hg1⟩
  have hownm : w1.ownsMap Trym.prog 9 tokElem bm n D := by
    obtain ⟨es, clock, hb, r⟩ := hown
    exact ⟨es, clock, hg1.other bm _ (by rw [Below.heap_alloc w _ _ hbm]; exact hb) rfl, r⟩
  have hB1 : Below w.heap.size w w1 := ((Below.refl _ _).alloc (Nat.le_refl _) _).trans hg1.below
  have hB1s := hB1.size
  have HB1 := hide hB1
  have HO1 := hide hown1
  clear hg1 hB1 hown1
  go_wp2_with (at_range; refine wpList_range_own _ rfl _ 55 rfl 9 22 law Trym.underlying55 _ bm n D rfl hownm ?_; intro w0 hrg0 hg0 hs0)
  go_frame
  have hstart : EncLoop D F bm w1.heap.size n w v1 w0 (Maps.has D) (Maps.size D) [] := by
    refine ⟨hrg0, Enc.start D, ?_, ?_⟩
    · have := (unhide HO1).kept hg0 (by cases h : v1.ownBlock <;> simp)
      rw [encBytes_nil]
      simp only [Lib.byteCells, List.map_cons, List.length_cons]
      rw [Nat.add_comm _ 1]
      exact this
    · exact (unhide HB1).grown hg0 (by omega) (fun k hk => by cases hk)
  have HST := hide hstart
  clear hrg0 hg0 hstart hownm HB1 HO1 hown hs0
  go_loopw [3] (fun s wr => ∃ (left : Lit → Bool) (cnt : Nat) (done : List (ByteArray × Value)), EncLoop D F bm w1.heap.size n w s wr left cnt done) (fun _ wr => wr.rangeLeft bm w1.heap.size)
  case atStart => exact ⟨_, _, _, unhide HST⟩
  case round =>
    obtain ⟨left, cnt, done, hL⟩ := hrel
    clear HST
    have hrg := hL.rng
    have HL := hide hL
    clear hL
    go_wp2_with (at_next; refine wpList_next_tok _ rfl _ rfl bm w1.heap.size n D left cnt rfl hrg ?_ ?_)
    · intro hl
      go_wp2
      go_ret
      have hE := (unhide HL).enc
      exact ⟨_, done, rfl, ⟨hE.apart, fun p hp => (hE.in_ p hp).2, fun kl hk => hE.out kl hk (hl kl), hE.done_all (unhide HENT) hl, (unhide HL).row, (unhide HL).bel⟩⟩
    · intro x ca cn cc w2 cnt' hlx hat hrg2 hlt hg2 hen
      have hhas : Maps.has D (keyLit x) = true := Maps.has_true_of_atKey hat
      have hxs := unhide HK x hhas
      have hgv := unhide HG (keyLit x) _ hhas (hat .nil)
      have hE := (unhide HL).enc
      have hE' := hE.step hlx hat hlt
      have hrow2 := row_step (unhide HL).row hrg hg2
      have hr1 : w.heap.size ≤ w1.heap.size := hB1s
      have hbel2 : Below w.heap.size w w2 := (unhide HL).bel.grown hg2 (unhide HL).bel.size (fun k hk => by cases hk; exact hr1)
      have hlen : (encBytes F (Maps.size D) done).length ≤ 14680064000011 := by
        have hc := hE.count
        refine encBytes_le (by omega) (by omega) (fun p hp => ?_)
        obtain ⟨_, h1, h2⟩ := hE.in_ p hp
        exact ⟨unhide HK p.1 h1, (unhide HG _ _ h1 h2).2⟩
      have hmeas : cnt' < wr.rangeLeft bm w1.heap.size := by rw [hrg.left_eq]; exact hlt
      have HGV := hide hgv
      have HE' := hide hE'
      have HR2 := hide hrow2
      have HRG2 := hide hrg2
      have HBEL2 := hide hbel2
      have HM := hide hmeas
      clear hrg hgv hE hE' hrow2 hrg2 hbel2 hmeas HL hlx hat hlt hg2 hhas
      obtain ⟨pre0, hpre0⟩ : ∃ pre0, pre0 = encBytes F (Maps.size D) done := ⟨_, rfl⟩
      rw [← hpre0] at HR2 hlen
      have HP0 := hide hpre0
      clear hpre0
      obtain ⟨ss, hss⟩ : ∃ ss, ss = F (.slice ca cn cc) := ⟨_, rfl⟩
      rw [← hss] at HGV
      have HSS := hide hss
      clear hss
      obtain ⟨⟨ga, gb, go, gc, hgv, hga, hgc⟩, htot⟩ := unhide HGV
      have hcn : cn = ss.length := by simp at hgv; exact hgv.2.1
      have hga' : 0 < ss.length → ca = some ⟨gb, go, none⟩ := fun h => by simp at hgv; rw [hgv.1]; exact hga h
      have hxl := strBytes_le hxs
      have hcl := Lib.uvarint_length64 (x := cn) (by omega)
      have hsl := strsBytes_le ss (by omega)
      have HCN := hide hcn
      have HGA := hide hga'
      have HGC := hide hgc
      clear HGV hgv hga hgc hcn hga'
      have hcnb : cn ≤ 1048576 := by have := unhide HCN; omega
      go_wp2_with fail
      refine (appendString_any w.heap.size pre0.length x hxs _ _ _ (unhide HR2) (unhide HBEL2).size (by omega)).mono ?_
      rintro e w3 ⟨v3, rfl, hown3, hg3⟩
      have hrg3 := ranges_grows (unhide HRG2) hg3
      have hbel3 := (unhide HBEL2).trans hg3.below
      have HO3 := hide hown3
      have HRG3 := hide hrg3
      have HBEL3 := hide hbel3
      clear hown3 hrg3 hbel3 hg3 HR2 HRG2 HBEL2 hen
      go_wp2_with fail
      refine (appendUvarint_any w.heap.size _ cn (by omega) _ _ _ (unhide HO3) (unhide HBEL3).size (by omega)).mono ?_
      rintro e w4 ⟨v4, rfl, hown4, hg4⟩
      have hrg4 := ranges_grows (unhide HRG3) hg4
      have hbel4 := (unhide HBEL3).trans hg4.below
      have hown4' : w4.ownsRow w.heap.size 5 1 v4 (pre0 ++ (strBytes x ++ Lib.uvarint cn)).length (Lib.byteCells (pre0 ++ (strBytes x ++ Lib.uvarint cn))) := by
        rw [Lib.byteCells_append, Lib.byteCells_append, List.length_append, List.length_append, ← List.append_assoc, ← Nat.add_assoc]
        exact hown4
      have HO4 := hide hown4'
      have HRG4 := hide hrg4
      have HBEL4 := hide hbel4
      clear hown4 hown4' hrg4 hbel4 hg4 HO3 HRG3 HBEL3
      go_wp2
      go_loopw [3, 30] (fun s i wx => ∃ t : Nat, t ≤ cn ∧ i = .int .i64 t ∧ Inner D bm w1.heap.size n w s wx (fun z => left z && !z.sameKey (keyLit x)) cnt' (pre0 ++ (strBytes x ++ Lib.uvarint cn) ++ strsBytes (ss.take t))) (fun _ i _ => cn - (intOf i).toNat)
      case atStart => exact ⟨0, Nat.zero_le _, rfl, ⟨unhide HRG4, by simpa [strsBytes] using unhide HO4, unhide HBEL4⟩⟩
      case round =>
        obtain ⟨t, ht, rfl, hI⟩ := hrel
        have HI := hide hI
        clear hI HO4 HRG4 HBEL4
        have hcn := unhide HCN
        by_cases hlt : t < cn
        · have hts : t < ss.length := by omega
          have hca := unhide HGA (by omega)
          have HCA := hide hca
          have hcell := cell_later' (unhide HI).bel (unhide HGC t hts)
          have hsz : (nth ss t).size ≤ 1048576 := by rw [nth_eq hts]; have := size_le_total (List.getElem_mem hts); omega
          have htt := total_take_le ss t
          have hpl := strsBytes_le (ss.take t) (by omega)
          have htl : (ss.take t).length ≤ ss.length := List.length_take_le' _ _
          have hltz : (t : Int) < (cn : Int) := by omega
          have hbig : (pre0 ++ (strBytes x ++ Lib.uvarint cn) ++ strsBytes (ss.take t)).length + 2000000 ≤ 140737488355328 := by
            simp only [List.length_append]; omega
          have HBIG := hide hbig
          have HCN2 := hide hcn
          clear hcn hbig htt hpl htl hca
          rw [unhide HCA]
          go_wp2_with fail
          refine (appendString_any w.heap.size _ (nth ss t) hsz _ _ _ (unhide HI).row (unhide HI).bel.size (unhide HBIG)).mono ?_
          rintro e w5 ⟨v5, rfl, hown5, hg5⟩
          have hI5 : Inner D bm w1.heap.size n w v5 w5 (fun z => left z && !z.sameKey (keyLit x)) cnt' (pre0 ++ (strBytes x ++ Lib.uvarint cn) ++ strsBytes (ss.take (t + 1))) := by
            refine ⟨ranges_grows (unhide HI).rng hg5, ?_, (unhide HI).bel.trans hg5.below⟩
            rw [strsBytes_snoc ss t hts, ← List.append_assoc, Lib.byteCells_append, List.length_append]
            exact hown5
          have HI5 := hide hI5
          clear hown5 hg5 hI5
          go_wp2
          go_roundw
          case rel => exact ⟨t + 1, by omega, by go_num, unhide HI5⟩
          case measure => simp [intOf]; omega
        · have hltz : ¬ (t : Int) < (cn : Int) := by omega
          have hI5 : EncLoop D F bm w1.heap.size n w u3 wr (fun z => left z && !z.sameKey (keyLit x)) cnt' (done ++ [(x, .slice ca cn cc)]) := by
            refine ⟨(unhide HI).rng, unhide HE', ?_, (unhide HI).bel⟩
            have hrow := (unhide HI).row
            rw [List.take_of_length_le (by omega)] at hrow
            have e1 : encBytes F (Maps.size D) (done ++ [(x, .slice ca cn cc)]) = pre0 ++ (strBytes x ++ Lib.uvarint cn) ++ strsBytes ss := by
              rw [encBytes_snoc, ← unhide HP0]
              simp only [entBytes]
              rw [← unhide HSS, ← hcn]
              simp only [List.append_assoc]
            rw [e1]
            exact hrow
          have hm5 : wr.rangeLeft bm w1.heap.size = cnt' := (unhide HI).rng.left_eq
          have HI5 := hide hI5
          have HM5 := hide hm5
          clear hI5 hm5 HI hcn
          go_wp2
          go_roundw
          case rel => exact ⟨_, _, _, unhide HI5⟩
          case measure => rw [unhide HM5]; exact unhide HM

set_option maxHeartbeats 800000 in
theorem zzencode_any (bm n : Nat) (D : DataW Value) (F : Value → List ByteArray) (w : World) (hown : w.ownsMap Trym.prog 9 tokElem bm n D) (hn : n ≤ 1048576)
    (hkeys : ∀ s, Maps.has D (keyLit s) = true → s.size ≤ 1048576) (hgood : ∀ kl v, Maps.has D kl = true → D.atKey kl .nil = .held v → Good w v (F v)) :
    Calls Trym.prog 12 #[.map (some bm)] w fun e w' => ∃ v order, e = .returned v ∧ Encoded D F w v w' order := by
  have H := hide (encode_any bm n D F w hown hn hkeys hgood)
  clear hown hkeys hgood
  go_enter Trym.func12, Trym.ntmps12
  go_wp2_with fail
  refine (unhide H).mono ?_
  rintro e w' ⟨v, order, rfl, he⟩
  have HE := hide he
  clear he
  go_wp2
  go_ret
  exact ⟨v, order, rfl, unhide HE⟩

end Go.Proofs.Qxb6604705aMods
