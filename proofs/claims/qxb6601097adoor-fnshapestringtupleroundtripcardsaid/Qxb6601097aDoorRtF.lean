import Derived.Test.Qxb6601097aDoorRtE
import Derived.Lib.AtoiErrMem
import Derived.Deep.DeepCutAuto
namespace Go.Proofs.Qxb6601097aDoor.Rt
open Go.RowKit

theorem take_yesP {p tb L cap k : Nat} {c : Int} {w : World} (h : PS w p tb L cap k) (hk : k < L) (hL : L ≤ 1099511627776) (hc : w.cell? ⟨tb, k, none⟩ = some (.int .u8 c)) :
    Calls Tryd.prog 27 #[.pointer (some ⟨p, 0, none⟩), .int .u8 c] w fun e w' => e = .returned (.bool true) ∧ PS w' p tb L cap (k + 1) ∧ w.grownBy w' (some p) :=
  (take_yes p tb L cap k c w h.text h.pos h.free hk hL hc).mono fun e w' ⟨he, n, hw⟩ => ⟨he, by subst hw; exact h.set n (k + 1), by subst hw; exact gb_set _ _ _ _ _⟩
theorem take_noP {p tb L cap k : Nat} {c q : Int} {w : World} (h : PS w p tb L cap k) (hk : k < L) (hc : w.cell? ⟨tb, k, none⟩ = some (.int .u8 q)) (hq : q ≠ c) :
    Calls Tryd.prog 27 #[.pointer (some ⟨p, 0, none⟩), .int .u8 c] w fun e w' => e = .returned (.bool false) ∧ PS w' p tb L cap k ∧ w.grownBy w' (some p) :=
  (take_no p tb L cap k c q w h.text h.pos hk hc (by simpa using hq)).mono fun e w' ⟨he, n, hw⟩ => ⟨he, by subst hw; exact h.drewN n, by subst hw; exact gb_drewN _ _ _⟩

theorem PS.pos_eq {w : World} {p tb L cap k k' : Nat} (h : PS w p tb L cap k) (e : k = k') : PS w p tb L cap k' := e ▸ h

/-- The text's row, byte for byte. -/
def TextAt (w : World) (tb : Nat) (t : List UInt8) : Prop := ∀ j, j < t.length → w.cell? ⟨tb, j, none⟩ = some (.int .u8 (t.getD j 0).toNat)
theorem TextAt.kept {w w' : World} {p tb : Nat} {t : List UInt8} (h : TextAt w tb t) (g : w.grownBy w' (some p)) (hne : tb ≠ p) : TextAt w' tb t :=
  fun j hj => g.cell (h j hj) (by simpa using hne)

/-- What holds at a round's start. -/
structure Inv (W wr : World) (p tb cap : Nat) (t : List UInt8) (l done r : List Int) (k : Nat) (b : Bool) (v : Value) : Prop where
  split : l = done ++ r
  own : wr.ownsRow W.heap.size 2 1 v done.length (done.map (Value.int .i64))
  nn : ∃ g c, v = .slice (some ⟨g, 0, none⟩) done.length c
  ps : PS wr p tb t.length cap k
  gb : W.grownBy wr (some p)
  here : At t (decide (l.length = 1)) done r k b
  pLt : p < W.heap.size

theorem Inv.start {W w1 : World} {p tb cap : Nat} {t : List UInt8} {l : List Int} (ht : t = shapeText l) (hp : PS w1 p tb t.length cap (0 + 1)) (hg : W.grownBy w1 (some p)) (hpl : p < W.heap.size) :
    Inv W (w1.alloc (.cells #[] 2)) p tb cap t l [] l 1 false (.slice (some ⟨w1.heap.size, 0, none⟩) 0 0) where
  split := rfl
  own := World.ownsRow_lit w1 #[] 0 hg.size (Nat.zero_le _) rfl
  nn := ⟨_, _, rfl⟩
  ps := hp.kept (World.grownBy_alloc w1 _ none) (by simp)
  gb := gb_trans hg (World.grownBy_alloc w1 _ _)
  here := by rw [ht]; exact at_start l false
  pLt := hpl

theorem itoa_digit (z : Int) (h : 0 ≤ z) (j : Nat) (hj : j < (Lib.itoa z).length) : 48 ≤ ((Lib.itoa z).getD j 0).toNat ∧ ((Lib.itoa z).getD j 0).toNat ≤ 57 := by
  have := decDigits_digit z.toNat ((Lib.itoa z).getD j 0) (by
    rw [← itoa_dec z h]
    simp [List.getElem?_eq_getElem hj])
  exact this

/-- The facts of a round that reads the number z: its first place m, its length d, what follows it. -/
structure Round (wr : World) (tb : Nat) (t : List UInt8) (z : Int) (k m d : Nat) (q c2 : Int) : Prop where
  km : k ≤ m
  sp : ∀ j, k ≤ j → j < m → wr.cell? ⟨tb, j, none⟩ = some (.int .u8 32)
  dpos : 1 ≤ d
  lt : m + d < t.length
  first : wr.cell? ⟨tb, m, none⟩ = some (.int .u8 q)
  q0 : 48 ≤ q
  q9 : q ≤ 57
  dig : ∀ n, m ≤ n → n < m + d → ∃ x : Int, wr.cell? ⟨tb, n, none⟩ = some (.int .u8 x) ∧ 48 ≤ x ∧ x ≤ 57
  stop : wr.cell? ⟨tb, m + d, none⟩ = some (.int .u8 c2)
  bytes : ∀ j (hj : j < (Lib.itoa z).length), wr.cell? ((⟨tb, m, none⟩ : Addr).add j) = some (.int .u8 ((Lib.itoa z)[j].toNat : Int))

theorem Round.kept {w w' : World} {p tb : Nat} {t : List UInt8} {z : Int} {k m d : Nat} {q c2 : Int} (h : Round w tb t z k m d q c2) (g : w.grownBy w' (some p)) (hne : tb ≠ p) : Round w' tb t z k m d q c2 :=
  have ne : some tb ≠ some p := by simpa using hne
  ⟨h.km, fun j h1 h2 => g.cell (h.sp j h1 h2) ne, h.dpos, h.lt, g.cell h.first ne, h.q0, h.q9, fun n h1 h2 => let ⟨x, h3, h4⟩ := h.dig n h1 h2; ⟨x, g.cell h3 ne, h4⟩, g.cell h.stop ne,
    fun j hj => g.cell (h.bytes j hj) (by
      have ha : (⟨tb, m, none⟩ : Addr).add j = ⟨tb, m + j, none⟩ := by unfold Addr.add; split <;> simp_all
      rw [ha]; exact ne)⟩

theorem round_of {wr : World} {tb k m : Nat} {t : List UInt8} {single : Bool} {done r : List Int} {z : Int} {c2 : UInt8} {k' : Nat} (h : Step t single done r z k m c2 k') (hx : TextAt wr tb t) (hz : 0 ≤ z) :
    Round wr tb t z k m (Lib.itoa z).length ((t.getD m 0).toNat : Int) (c2.toNat : Int) := by
  have hpos : 1 ≤ (Lib.itoa z).length := by rw [itoa_dec z hz]; exact decDigits_pos _
  have hd0 := itoa_digit z hz 0 hpos
  have e0 := h.dig 0 hpos
  rw [Nat.add_zero] at e0
  refine ⟨h.km, fun j h1 h2 => ?_, hpos, h.lt, hx m (by have := h.lt; omega), by rw [e0]; omega, by rw [e0]; omega, fun n h1 h2 => ?_, ?_, fun j hj => ?_⟩
  · rw [hx j (by have := h.lt; omega), h.sp j h1 h2]; rfl
  · refine ⟨_, hx n (by have := h.lt; omega), ?_⟩
    have e := h.dig (n - m) (by omega)
    rw [show m + (n - m) = n by omega] at e
    have := itoa_digit z hz (n - m) (by omega)
    rw [e]; omega
  · rw [hx _ h.lt, h.stop]
  · have ha : (⟨tb, m, none⟩ : Addr).add j = ⟨tb, m + j, none⟩ := by unfold Addr.add; split <;> simp_all
    rw [ha, hx _ (by have := h.lt; omega), h.dig j hj]
    simp [List.getElem?_eq_getElem hj]

theorem idx_q (q : Int) (h : 33 ≤ q) (h2 : q < 256) : Lib.indexByte [32, 9, 10, 13, 12] q.toNat.toUInt8 = -1 := by
  refine not_space _ ?_
  rw [show q.toNat.toUInt8 = UInt8.ofNat q.toNat from rfl, UInt8.toNat_ofNat_of_lt' (by simp [UInt8.size]; omega)]
  omega

theorem first_not_nought (z : Int) (hz : 0 ≤ z) (DS : ByteArray) (hDS : DS = ⟨(Lib.itoa z).toArray⟩) (h1 : 1 < DS.size) (hp : 0 < DS.size) : Value.bool (((DS[0]'hp).toNat : Int) == 48) = Value.bool false := by
  subst hDS
  simp only [ByteArray.size_mk', List.size_toArray] at h1 hp
  have hl := decDigits_long z.toNat (by rw [← itoa_dec z hz]; exact h1)
  have hh := decDigits_head z.toNat hl ((Lib.itoa z)[0]) (by rw [← itoa_dec z hz, List.head?_eq_getElem?, List.getElem?_eq_getElem hp])
  congr 1
  simp only [beq_eq_false_iff_ne, ne_eq]
  show ¬ (((Lib.itoa z)[0].toNat : Int) = 48)
  omega

theorem Inv.len {W wr : World} {p tb cap : Nat} {t : List UInt8} {l done r : List Int} {z : Int} {k : Nat} {b : Bool} {v : Value} (h : Inv W wr p tb cap t l done (z :: r) k b v) : done.length + 1 ≤ l.length := by
  rw [h.split]; simp
theorem own_ne {W wr : World} {p tb cap : Nat} {t : List UInt8} {l done r : List Int} {k g c : Nat} {b : Bool} (h : Inv W wr p tb cap t l done r k b (.slice (some ⟨g, 0, none⟩) done.length c)) :
    (Value.slice (some ⟨g, 0, none⟩) done.length c).ownBlock ≠ some p := by
  have := (h.own.lt g rfl).1
  have := h.pLt
  simp [Value.ownBlock]; omega
theorem own_form {w : World} {base : Nat} {e : TypeId} {size : Nat} {v : Value} {n : Nat} {xs : List Value} (h : w.ownsRow base e size v n xs) (hn : 0 < n) : ∃ g c, v = .slice (some ⟨g, 0, none⟩) n c := by
  rcases h.2 with ⟨_, h0⟩ | ⟨g, c, _, hv, _⟩
  · omega
  · exact ⟨g, c, hv⟩

theorem PS.set0 {w : World} {p tb L cap k : Nat} (h : PS w p tb L cap k) (j : Nat) : PS (w.setCell ⟨p, 1, none⟩ (.int .i64 j)) p tb L cap j := h.set 0 j
theorem gb_set0 (w : World) (p o : Nat) (u : Value) : w.grownBy (w.setCell ⟨p, o, none⟩ u) (some p) := gb_set w 0 p o u
theorem gb_own {a b c : World} {p g : Nat} (h : a.grownBy b (some p)) (k : b.grownBy c (some g)) (hg : a.heap.size ≤ g) : a.grownBy c (some p) :=
  ⟨k.os.trans h.os, k.tape.trans h.tape, k.output.trans h.output, Nat.le_trans h.size k.size, fun i hi hr => (k.block i (Nat.lt_of_lt_of_le hi h.size) (by simp; omega)).trans (h.block i hi hr)⟩

theorem Step.comma {t : List UInt8} {single : Bool} {done r : List Int} {z : Int} {k m : Nat} {c2 : UInt8} {k' : Nat} (h : Step t single done r z k m c2 k') :
    ∃ b', ((c2 = 44 ∧ k' = m + (Lib.itoa z).length + 1 ∧ b' = true) ∨ (c2 = 41 ∧ k' = m + (Lib.itoa z).length ∧ b' = false)) ∧ At t single (done ++ [z]) r k' b' := by
  rcases h.next with ⟨h1, h2, h3⟩ | ⟨h1, h2, h3⟩
  · exact ⟨true, .inl ⟨h1, h2, rfl⟩, h3⟩
  · exact ⟨false, .inr ⟨h1, h2, rfl⟩, h3⟩
theorem take_comma {p tb L cap n k' : Nat} {c2 : UInt8} {b' : Bool} {w : World} (h : PS w p tb L cap n) (hn : n < L) (hL : L ≤ 1099511627776) (hc : w.cell? ⟨tb, n, none⟩ = some (.int .u8 (c2.toNat : Int)))
    (hor : (c2 = 44 ∧ k' = n + 1 ∧ b' = true) ∨ (c2 = 41 ∧ k' = n ∧ b' = false)) :
    Calls Tryd.prog 27 #[.pointer (some ⟨p, 0, none⟩), .int .u8 44] w fun e w' => e = .returned (.bool b') ∧ PS w' p tb L cap k' ∧ w.grownBy w' (some p) := by
  rcases hor with ⟨rfl, rfl, rfl⟩ | ⟨rfl, rfl, rfl⟩
  · exact take_yesP h hn hL hc
  · exact take_noP h hn hc (by decide)
theorem Inv.next {W wr w6 w7 : World} {p tb cap : Nat} {t : List UInt8} {l done r : List Int} {z : Int} {k k' : Nat} {b b' : Bool} {v : Value} {g' c' : Nat} (h : Inv W wr p tb cap t l done (z :: r) k b v)
    (ho : w6.ownsRow W.heap.size 2 1 (.slice (some ⟨g', 0, none⟩) (done.length + 1) c') (done.length + 1) (done.map (Value.int .i64) ++ [.int .i64 z])) (hg6 : W.grownBy w6 (some p))
    (hp7 : PS w7 p tb t.length cap k') (hg7 : w6.grownBy w7 (some p)) (hat : At t (decide (l.length = 1)) (done ++ [z]) r k' b') :
    Inv W w7 p tb cap t l (done ++ [z]) r k' b' (.slice (some ⟨g', 0, none⟩) (done.length + 1) c') where
  split := by rw [h.split]; simp
  own := by
    have e : (done ++ [z]).length = done.length + 1 := by simp
    rw [e, List.map_append]
    refine ho.kept hg7 (.inr ?_)
    have := (ho.lt g' rfl).1
    have := h.pLt
    simp [Value.ownBlock]; omega
  nn := ⟨g', c', by simp⟩
  ps := hp7
  gb := gb_trans hg6 hg7
  here := hat
  pLt := h.pLt

theorem parse_any (z : Int) (h0 : 0 ≤ z) (h1 : z ≤ 9223372036854775807) (DS : ByteArray) (hDS : DS = ⟨(Lib.itoa z).toArray⟩) (w : World) :
    Calls Tryd.prog 29 #[.string DS, .int .i64 10, .int .i64 64] w fun e w' => e = .returned (.tuple #[.int .i64 z, .nilIface]) ∧ Below w.heap.size w w' := by
  have hl := Lib.itoa_length_le z (by omega) h1
  subst hDS
  refine (Tryd.strconv_ParseInt_10_at64_ok _ (by simp only [ByteArray.size_mk', List.size_toArray]; omega) z (parse_itoa z h0 h1) w).mono ?_
  rintro e w' ⟨he, hw⟩
  refine ⟨he, ?_⟩
  rcases hw with hw | ⟨t, hw⟩
  · rw [hw]; exact Below.refl _ _
  · rw [hw]; exact Lib.bytesWorld_below _ _ _

set_option maxRecDepth 20000 in
set_option maxHeartbeats 1000000 in
theorem tuple_any (p tb cap : Nat) (t : List UInt8) (l : List Int) (W : World) (ht : t = shapeText l) (hl : l.length ≤ 131072) (hr : ∀ z ∈ l, 0 ≤ z ∧ z ≤ 9223372036854775807) (hpt : tb ≠ p)
    (hps : PS W p tb t.length cap 0) (hcap : t.length ≤ cap) (hL : t.length ≤ 1099511627776) (htx : TextAt W tb t) :
    Calls Tryd.prog 23 #[.pointer (some ⟨p, 0, none⟩)] W fun e w' => ∃ g c, e = .returned (.tuple #[.slice (some ⟨g, 0, none⟩) l.length c, .bool true]) ∧
      w'.ownsRow W.heap.size 2 1 (.slice (some ⟨g, 0, none⟩) l.length c) l.length (l.map (Value.int .i64)) ∧ PS w' p tb t.length cap t.length ∧ W.grownBy w' (some p) := by
  obtain ⟨i0, hi, hz0, hz1, hz2⟩ := info_parts info2
  have h0 : 0 < t.length := by rw [ht, shapeText_body]; simp
  have hc0 : W.cell? ⟨tb, 0, none⟩ = some (.int .u8 40) := by rw [htx 0 h0, ht, shapeText_body]; rfl
  have HT := hidden (take_yesP hps h0 hL hc0)
  have hpl := hps.lt
  have HX := hidden htx
  have HR := hidden hr
  have HS := hidden ht
  clear hc0 hps htx hr ht
  go_enter Tryd.func23, Tryd.ntmps23
  go_wp2_with fail
  refine HT.out.mono ?_
  rintro e w1 ⟨rfl, hp1, hg1⟩
  have HP := hidden hp1
  have HG := hidden hg1
  clear HT hp1 hg1
  go_wp2
  go_loopg [4, 5] (l.length + 1) (fun n v cm wr => ∃ done r k b, n = r.length + 1 ∧ cm = .bool b ∧ Inv W wr p tb cap t l done r k b v)
  case atStart => exact ⟨[], l, 1, false, rfl, rfl, Inv.start HS.out HP.out HG.out hpl⟩
  case round =>
    obtain ⟨done, r, k, b, hgk, rfl, hinv⟩ := hrel
    obtain ⟨g, c, rfl⟩ := hinv.nn
    cases r with
    | nil =>
      obtain ⟨h41, hlen, hor⟩ := at_end hinv.here
      have hdl : l = done := by simpa using hinv.split
      subst hdl
      have htk := HX.out.kept hinv.gb hpt
      have hck : wr.cell? ⟨tb, k, none⟩ = some (.int .u8 41) := by rw [htk k (by omega), h41]; rfl
      have HSp := hidden (space_any p tb t.length cap k k 41 wr (Nat.le_refl _) (by omega) hL hpt hinv.ps (fun j h1 h2 => by omega) hck (by decide))
      have HI := hidden hinv
      have HLN := hidden hlen
      have HCK := hidden hck
      clear h41 hlen htk hck hinv hgk HP HG HS
      go_wp2_with fail
      refine HSp.out.mono ?_
      rintro e w2 ⟨rfl, hp2, hg2⟩
      have HTk := hidden (take_yesP hp2 (by have := HLN.out; omega) hL (hg2.cell HCK.out (by simpa using hpt)))
      have HG2 := hidden hg2
      clear hp2 hg2 HSp
      go_wp2_with fail
      refine HTk.out.mono ?_
      rintro e w3 ⟨rfl, hp3, hg3⟩
      have HP3 := hidden hp3
      have HG3 := hidden (gb_trans HG2.out hg3)
      clear hp3 hg3 HTk HG2
      have HF := hidden (And.intro (HI.out.own.kept HG3.out (.inr (by
        have := (HI.out.own.lt g rfl).1
        have := HI.out.pLt
        simp [Value.ownBlock]; omega))) (And.intro (HP3.out.pos_eq HLN.out.symm) (gb_trans HI.out.gb HG3.out)))
      by_cases h1 : l.length = 1
      · have hb : b = true := by rcases hor with h | h; exact absurd h1 h; exact h
        subst hb
        have hbb : ((l.length : Int) != 1) = false := by simp [h1]
        clear hor h1
        go_wp2
        go_ret2
        exact ⟨g, c, rfl, HF.out⟩
      · have hbb : ((l.length : Int) != 1) = true := by simp; omega
        clear hor h1
        go_wp2
        go_ret2
        exact ⟨g, c, rfl, HF.out⟩
    | cons z r =>
      obtain ⟨hbt, m, c2, k', hst⟩ := at_step hinv.here (by rw [← hinv.split])
      have hz := HR.out z (by rw [hinv.split]; simp)
      have htk := HX.out.kept hinv.gb hpt
      have hro := round_of hst htk hz.1
      obtain ⟨q, hq⟩ : ∃ q : Int, q = ((t.getD m 0).toNat : Int) := ⟨_, rfl⟩
      obtain ⟨d, hd⟩ : ∃ d, d = (Lib.itoa z).length := ⟨_, rfl⟩
      rw [← hq, ← hd] at hro
      have hmd := hro.lt
      have hdp := hro.dpos
      have HSp := hidden (space_any p tb t.length cap k m q wr hro.km (by omega) hL hpt hinv.ps hro.sp hro.first (idx_q q (by have := hro.q0; omega) (by have := hro.q9; omega)))
      have HI := hidden hinv
      have HRo := hidden hro
      have HD := hidden hd
      have HZ := hidden hz
      have HST := hidden hst
      have HGK := hidden hgk
      clear hq hd hro hinv hz hst htk HP HG HS hgk
      have hcase : (0 < done.length ∧ b = true) ∨ ¬ 0 < done.length := by
        rcases Nat.eq_zero_or_pos done.length with h | h
        · exact .inr (by omega)
        · exact .inl ⟨h, hbt h⟩
      clear hbt
      go_wp2_with fail
      refine HSp.out.mono ?_
      rintro e w2 ⟨rfl, hp2, hg2⟩
      have HTk := hidden (take_noP (c := 41) hp2 (by omega) (hg2.cell HRo.out.first (by simpa using hpt)) (by have := HRo.out.q0; omega))
      have HG2 := hidden hg2
      clear hp2 hg2 HSp
      go_wp2_with fail
      refine HTk.out.mono ?_
      rintro e w3 ⟨rfl, hp3, hg3⟩
      have HP3 := hidden hp3
      have HG3 := hidden (gb_trans HG2.out hg3)
      have h30 := hp3.text
      have h31 := hp3.pos
      clear hp3 hg3 HTk HG2
      have HR3 := hidden (HRo.out.kept HG3.out hpt)
      have HC2 : Hid (c2.toNat = 44 ∨ c2.toNat = 41) := by
        rcases HST.out.next with ⟨h, _⟩ | ⟨h, _⟩ <;> subst h
        · exact .inl rfl
        · exact .inr rfl
      rcases hcase with ⟨hc1, rfl⟩ | hc1
      all_goals
        go_wp2
        go_loop [6] (fun v => ∃ n : Nat, m ≤ n ∧ n ≤ m + d ∧ v = .int .i64 n) (fun v => m + d - (intOf v).toNat)
        case atStart => exact ⟨m, Nat.le_refl _, by omega, rfl⟩
        case round =>
          obtain ⟨n, hn1, hn2, rfl⟩ := hrel
          have hnL : n < t.length := by omega
          by_cases hnd : n < m + d
          · obtain ⟨x, hx, hx1, hx2⟩ := HR3.out.dig n hn1 hnd
            go_wp2
            go_round
            case rel => exact ⟨n + 1, by omega, by omega, by go_num⟩
            case measure => simp [intOf]; omega
          · obtain ⟨x, hx⟩ : ∃ x : Int, x = (c2.toNat : Int) := ⟨_, rfl⟩
            have hstop : w3.cell? ⟨tb, n, none⟩ = some (.int .u8 x) := by
              rw [show n = m + d by omega, hx]; exact HR3.out.stop
            have hx8 : ¬ 48 ≤ x := by have := HC2.out; omega
            have HN := hidden (show n = m + d by omega)
            obtain ⟨DS, hDS⟩ : ∃ DS : ByteArray, DS = ⟨(Lib.itoa z).toArray⟩ := ⟨_, rfl⟩
            have hconv : ∀ (i c' : Nat), (convert 26 9 (.slice (some ⟨tb, m, none⟩) (n - m) c')).run Tryd.prog (w3.drewN i) = .ok (.string DS) (w3.drewN i) := by
              intro i c'
              rw [show n - m = (Lib.itoa z).length by have := HD.out; omega, hDS]
              exact run_convert_bytes_back (w3.drewN i) 26 9 5 ⟨tb, m, none⟩ c' (Lib.itoa z) Tryd.underlying26 Tryd.underlying5 Tryd.underlying9 HR3.out.bytes
            have HDS := hidden hDS
            clear hx hDS
            go_wp2
            go_quiet (fail)
            go_wp2_with fail
            refine (parse_any z HZ.out.1 HZ.out.2 DS HDS.out _).mono ?_
            rintro e w4 ⟨rfl, hb4⟩
            have HB4 := hidden hb4
            clear hb4 hconv h30 h31 hstop hx8
            go_upto_region 15 with fail
            go_cut [92] (fun s w => s = .bool false ∧ w = w4)
            case first =>
              have hDp : 0 < DS.size := by rw [HDS.out]; simp only [ByteArray.size_mk', List.size_toArray]; have := HD.out; omega
              by_cases h1d : 1 < DS.size
              · go_wp2
                go_meet
                case rel => exact ⟨first_not_nought z HZ.out.1 DS HDS.out h1d hDp, rfl⟩
              · go_wp2
                go_meet
                case rel => exact ⟨rfl, rfl⟩
            case rest =>
              obtain ⟨rfl, hwc⟩ := hcut
              subst hwc
              have hgw := gb_trans HG3.out (gb_trans (gb_drewN w3 nq (some p)) (gb_of_below HB4.out))
              have hown := HI.out.own.kept hgw (.inr (own_ne HI.out))
              have hps4 := (HP3.out.drewN nq).kept (gb_of_below (row := none) HB4.out) (by simp)
              have hlen := HI.out.len
              have hbase : W.heap.size ≤ wc.heap.size := Nat.le_trans HI.out.gb.size hgw.size
              have HGW := hidden hgw
              have HPS4 := hidden hps4
              have HOW := hidden hown
              clear hgw hps4 hown HB4 HP3 HG3
              go_wp2_with (at_builtin; refine wpList_append_own _ rfl _ _ 22 rfl W.heap.size 2 i0 (.int .i64 0) 1 8 Tryd.underlying22 hi hz0 hz1 hz2 rfl (by decide) _ _ _ rfl (HOW.out.alloc _) ⟨wc.heap.size, 0, none⟩ 1 1 [.int .i64 z] rfl rfl ?c1 ?c2 ?c3 ?c4 ?c5 ?_)
              case c1 => exact cell_one_new _ _ _
              case c2 => intro u hu; simp at hu; subst hu; rfl
              case c3 => unfold maxLen; omega
              case c4 => omega
              case c5 => simp; omega
              intro v' w5 hown' hgrow hnn
              have hex : ∃ g' c', v' = .slice (some ⟨g', 0, none⟩) (done.length + 1) c' := own_form hown' (by omega)
              obtain ⟨g', c', hv⟩ := hex
              rw [hv]
              rw [hv] at hown'
              have hgg := (HOW.out.lt g rfl).1
              have hgp : p ≠ g := by omega
              have hps5 := (HPS4.out.kept (World.grownBy_alloc wc _ none) (by simp)).kept hgrow (by simpa [Value.ownBlock] using hgp)
              have hgb5 := gb_own (gb_trans (gb_trans HI.out.gb HGW.out) (World.grownBy_alloc wc _ _)) hgrow hgg
              have htx5 := HX.out.kept hgb5 hpt
              obtain ⟨b', hnx, hat⟩ := HST.out.comma
              have hnm : n = m + (Lib.itoa z).length := by have := HN.out; have := HD.out; omega
              have hst5 : w5.cell? ⟨tb, n, none⟩ = some (.int .u8 (c2.toNat : Int)) := by rw [htx5 n hnL, hnm, HST.out.stop]
              rw [← hnm] at hnx
              have h51 := hps5.pos
              have h5f := hps5.free
              have HP5 := hidden (hps5.set0 n)
              have HG5 := hidden (gb_trans hgb5 (gb_set0 w5 p 1 (.int .i64 n)))
              have HST5 := hidden ((gb_set0 w5 p 1 (.int .i64 n)).cell hst5 (by simpa using hpt))
              have HO5 := hidden (hown'.kept (gb_set0 w5 p 1 (.int .i64 n)) (.inr (by
                have := (hown'.lt g' rfl).1
                simp [Value.ownBlock]; omega)))
              have HNX := hidden hnx
              have HAT := hidden hat
              clear hgrow hown' hnn hv hps5 hgb5 htx5 hnx hat hnm hst5 HOW HPS4 HGW
              go_wp2_with fail
              refine (space_any p tb t.length cap n n (c2.toNat : Int) _ (Nat.le_refl _) hnL hL hpt HP5.out (fun j h1 h2 => by omega) HST5.out (idx_q _ (by have := HC2.out; omega) (by have := HC2.out; omega))).mono ?_
              rintro e w6 ⟨rfl, hp6, hg6⟩
              have HT6 := hidden (take_comma hp6 hnL hL (hg6.cell HST5.out (by simpa using hpt)) HNX.out)
              have HG6 := hidden (gb_trans HG5.out hg6)
              have HO6 := hidden (HO5.out.kept hg6 (.inr (by
                have := (HO5.out.lt g' rfl).1
                simp [Value.ownBlock]; omega)))
              clear hp6 hg6 HP5 HG5 HST5 HO5 h51 h5f
              go_wp2_with fail
              refine HT6.out.mono ?_
              rintro e w7 ⟨rfl, hp7, hg7⟩
              have HF := hidden (Inv.next HI.out HO6.out HG6.out hp7 hg7 HAT.out)
              clear hp7 hg7 HT6 HG6 HO6
              go_wp2
              go_roundg (r.length + 1)
              case measure => have := HGK.out; simp at this; omega
              case rel => exact ⟨done ++ [z], r, k', b', rfl, rfl, HF.out⟩

end Go.Proofs.Qxb6601097aDoor.Rt
