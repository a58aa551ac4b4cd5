import Derived.Test.Qxb6601367aRlE
namespace Go.Proofs.Qxb6601367a.Rl
open Go.RowKit

theorem scanF_length {vs : List (List UInt8)} (hne : ∀ v ∈ vs, v ≠ []) : ∀ (f : Nat) (t : List UInt8), (scanF vs f t).length ≤ 10 * t.length
  | 0, t => by simp only [scanF]; omega
  | f + 1, t => by
    simp only [scanF]
    cases h : hit vs t with
    | some v =>
      obtain ⟨hm, hp⟩ := hit_some h
      have h1 := prefix_len hp
      have h2 : v.length ≠ 0 := by simpa using hne v hm
      have h3 := scanF_length hne f (t.drop v.length)
      rw [List.length_drop] at h3
      have h4 : mark.length = 10 := rfl
      simp only [List.length_append]
      omega
    | none =>
      cases t with
      | nil => simp
      | cons c r =>
        have h3 := scanF_length hne f r
        simp only [List.length_cons]
        omega
theorem scan_length {vs : List (List UInt8)} (hne : ∀ v ∈ vs, v ≠ []) (t : List UInt8) : (scan vs t).length ≤ 10 * t.length := scanF_length hne _ t

theorem below_setCells {B b : Nat} (hb : B ≤ b) : ∀ (vs : List Value) (o : Nat) (a w : World), Below B a w → Below B a (w.setCells b o vs)
  | [], _, _, _, h => h
  | v :: vs, o, a, w, h => below_setCells hb vs (o + 1) a _ (h.setCell (by exact hb) v)

/-- 'zzc := make([]byte, len(a)); copy(zzc, a)'. -/
theorem copy_run {w w1 : World} {aa : Option Addr} {ca : Nat} {s : List UInt8} {cs : List Value} (hs : BS w1 aa ca s) (ho : w1.ownsRow w.heap.size 5 1 (.slice (some ⟨w.heap.size, 0, none⟩) s.length s.length) s.length cs) (hb : Below w.heap.size w w1) :
    ∃ w2, (∀ ty, (Builtin.copy_ #[23, 23] ty #[.slice (some ⟨w.heap.size, 0, none⟩) s.length s.length, .slice aa s.length ca]).run Try.prog w1 = .ok (goInt (s.length : Int)) w2) ∧ BS w2 (some ⟨w.heap.size, 0, none⟩) s.length s ∧ Below w.heap.size w w2 := by
  have hinfo : (Try.prog.info? 5).map (·.size) = some 1 := by
    obtain ⟨i0, hi, hz0, hz1, hz2⟩ := info_parts info5
    rw [hi, Option.map_some, hz1]
  rcases Nat.eq_zero_or_pos s.length with h0 | h0
  · refine ⟨w1, fun ty => ?_, ⟨Nat.le_refl _, (fun h => by cases h), fun h => by omega⟩, hb⟩
    rw [run_copy_none w1 23 23 ty 5 _ aa s.length s.length s.length ca Try.underlying23 hinfo (by rw [h0]; rfl), h0]
    rfl
  · obtain ⟨b, o, rfl, _, hc⟩ := hs.cell h0
    have hcell : ∀ j, j < s.length → (w1.cell? ⟨w.heap.size, 0 + j, none⟩).isSome = true := fun j hj => by
      rw [Nat.zero_add, ho.cellAt j (by omega), List.getElem?_eq_getElem (by rw [ho.1]; omega)]; rfl
    refine ⟨w1.setCells w.heap.size 0 (s.map bv), fun ty => ?_, ⟨Nat.le_refl _, (fun h => by cases h), fun _ => ⟨w.heap.size, 0, rfl, ?_, fun i hi => ?_⟩⟩, below_setCells (Nat.le_refl _) _ _ _ _ hb⟩
    · have := run_copy_cells (P := Try.prog) w1 23 23 ty 5 w.heap.size 0 s.length s.length ⟨b, o, none⟩ s.length ca (s.map bv) Try.underlying23 hinfo (by simp) (fun j v hj => by
          have hjl : j < s.length := by have := (List.getElem?_eq_some_iff.1 hj).1; simpa using this
          rw [addr_add, hc j hjl]
          simp only [List.getElem?_map, List.getElem?_eq_getElem hjl, Option.map_some, Option.some.injEq] at hj
          simp [List.getElem?_eq_getElem hjl, ← hj, bv])
        (fun j hj => hcell j (by simpa using hj)) (fun j _ => by rw [Nat.zero_add]; exact ho.frozenAt j) (fun u hu => by obtain ⟨b, _, rfl⟩ := List.mem_map.1 hu; rfl)
      rw [this]; simp
    · have := (ho.lt _ rfl).2
      exact Nat.lt_of_lt_of_le this (below_setCells (Nat.zero_le _) _ _ _ _ (Below.refl 0 w1)).size
    · rw [World.cell?_setCells_in w.heap.size (s.map bv) 0 w1 (fun j hj => hcell j (by simpa using hj)) i (by simpa using hi)]
      simp [List.getElem?_eq_getElem hi, bv]

/-- The two contracts with the length under a name of its own. -/
theorem concat_n (a1 a2 : Option Addr) (c1 c2 n1 n2 : Nat) (s t : List UInt8) (w : World) (h1 : BS w a1 c1 s) (h2 : BS w a2 c2 t) (hn1 : n1 = s.length) (hn2 : n2 = t.length) (hs : s.length ≤ 1099511627776) (ht : t.length ≤ 1099511627776) :
    Calls Try.prog 16 #[.slice a1 n1 c1, .slice a2 n2 c2] w fun e w' => ∃ a c n, e = .returned (.slice a n c) ∧ n = (s ++ t).length ∧ BS w' a c (s ++ t) ∧ Below w.heap.size w w' :=
  (concat_any a1 a2 c1 c2 n1 n2 s t w h1 h2 hn1 hn2 hs ht).mono fun _ _ ⟨a, c, he, hb, hw⟩ => ⟨a, c, _, he, rfl, hb, hw⟩
theorem redact_n (x ba : Option Addr) (cv bc n : Nat) (A : Nat → Option Addr) (C : Nat → Nat) (vs : List (List UInt8)) (t : List UInt8) (mx : Int) (w : World) (hg : Good w x A C vs mx) (hbs : BS w ba bc t) (hn : n = t.length) (htl : t.length ≤ 1048577) :
    Calls Try.prog 17 #[.slice x vs.length cv, .slice ba n bc] w fun e w' => ∃ a c n, e = .returned (.slice a n c) ∧ n = (scan vs t).length ∧ BS w' a c (scan vs t) ∧ Below w.heap.size w w' :=
  (zzredact_any x ba cv bc n A C vs t mx w hg hbs hn htl).mono fun _ _ ⟨a, c, he, hb, hw⟩ => ⟨a, c, _, he, rfl, hb, hw⟩

def LawP (w : World) (e : Ending) (w' : World) : Prop := e = .returned (.bool true) ∧ Below w.heap.size w w'

set_option maxRecDepth 20000 in
set_option maxHeartbeats 1000000 in
theorem law_any (x aa ab : Option Addr) (cv ca cb : Nat) (sep : UInt8) (A : Nat → Option Addr) (C : Nat → Nat) (vs : List (List UInt8)) (ta tb : List UInt8) (mx : Int) (w : World) (hvs : VS w x A C vs) (hba : BS w aa ca ta) (hbb : BS w ab cb tb)
    (hmx : w.cell? ⟨0, 0, none⟩ = some (.int .i64 mx)) :
    Calls Try.prog 6 #[.slice x vs.length cv, .slice aa ta.length ca, .slice ab tb.length cb, .int .u8 (sep.toNat : Int)] w (LawP w) := by
  have HV := hidden hvs
  have HA := hidden hba
  have HB := hidden hbb
  have HM := hidden hmx
  have kn := @run_neq_slice_nil_any Try.prog
  obtain ⟨y, hy⟩ : ∃ y : Int, y = (sep.toNat : Int) := ⟨_, rfl⟩
  rw [← hy]
  have HY := hidden hy
  clear hvs hba hbb hmx hy
  go_enter Try.func6, Try.ntmps6
  go_wp2_with fail
  refine (zzBytes_any x aa ab cv ta.length ca tb.length cb y A C vs w HV.out).mono ?_
  rintro e w0 ⟨q, rfl, hw⟩
  subst hw
  cases q with
  | false =>
    go_wp2
    go_ret
    unfold LawP
    exact ⟨rfl, Below.refl _ _⟩
  | true =>
    by_cases h1 : ta.length ≤ 1048576
    · by_cases h2 : tb.length ≤ 1048576
      · by_cases h3 : ta.length + tb.length ≤ 1048575
        · go_wp2_with fail
          refine (size_any x cv A C vs w HV.out).mono ?_
          rintro e w0 ⟨T, rfl, hT0, hT1, hT2, hw⟩
          subst hw
          have HT2 := hidden hT2
          clear hT2
          by_cases hT : T ≤ 1048575 - (ta.length : Int) - (tb.length : Int)
          · have hsz := HT2.out (by omega)
            have hvl : vs.length ≤ 1048576 := by omega
            have HLEN := hidden hsz.2
            clear hsz HT2
            go_wp2_with fail
            refine (well_any x cv A C vs w HV.out hvl).mono ?_
            rintro e w1 ⟨q, rfl, hq, hb1⟩
            cases q with
            | false =>
              have HB1 := hidden hb1
              clear hb1 hq
              go_wp2
              go_ret
              unfold LawP
              exact ⟨rfl, HB1.out⟩
            | true =>
              have hne : ∀ v ∈ vs, v ≠ [] := fun v hv => by
                obtain ⟨j, hj, rfl⟩ := mem_getD hv
                exact hq rfl j hj
              have HNE := hidden hne
              have HB1 := hidden hb1
              clear hb1 hq hne hT hT0 hT1
              obtain ⟨i5, hi5, hz50, hz51, hz52⟩ := info_parts info5
              go_upto_if 50 with fail
              go_cut [1] (fun sv w' => ∃ a' c', sv = .slice a' ta.length c' ∧ BS w' a' c' ta ∧ Below w.heap.size w w')
              case first =>
                cases aa with
                | none =>
                  go_wp2
                  go_meet
                  case rel => exact ⟨none, ca, rfl, HA.out.below HB1.out, HB1.out⟩
                | some xa =>
                  go_wp2_with (at_make; refine wpList_make_full _ rfl _ _ 23 rfl w1.heap.size 5 i5 (.int .u8 0) 1 Try.underlying23 hi5 hz50 hz51 .i64 .i64 _ _ ta.length rfl rfl rfl rfl ?c1 ?c2 ?c3 ?_)
                  case c1 => rw [hz52]; omega
                  case c2 => unfold maxLen; omega
                  case c3 => exact Nat.le_refl _
                  intro w2 hown hgrow
                  have hb2 : Below w1.heap.size w1 w2 := (Below.refl _ _).grown hgrow (Nat.le_refl _) (by intro k h; cases h)
                  obtain ⟨w3, hrun, hbs3, hb3⟩ := copy_run ((HA.out.below HB1.out).below hb2) hown hb2
                  have HF := hidden (And.intro hbs3 (HB1.out.trans (hb3.mono HB1.out.size)))
                  clear hown hgrow hb2 hbs3 hb3
                  go_wp2
                  go_meet
                  case rel => exact ⟨_, _, rfl, HF.out.1, HF.out.2⟩
              case rest =>
                obtain ⟨a', c', rfl, hba', hb2⟩ := hcut
                have HA' := hidden hba'
                have HB2 := hidden hb2
                clear hba' hb2 HA HB1
                go_upto_if 59 with fail
                go_cut [2] (fun sv w' => ∃ b' d', sv = .slice b' tb.length d' ∧ BS w' b' d' tb ∧ BS w' a' c' ta ∧ Below w.heap.size w w')
                case first =>
                  cases ab with
                  | none =>
                    go_wp2
                    go_meet
                    case rel => exact ⟨none, cb, rfl, HB.out.below HB2.out, HA'.out, HB2.out⟩
                  | some xb =>
                    go_wp2_with (at_make; refine wpList_make_full _ rfl _ _ 23 rfl wc.heap.size 5 i5 (.int .u8 0) 1 Try.underlying23 hi5 hz50 hz51 .i64 .i64 _ _ tb.length rfl rfl rfl rfl ?c1 ?c2 ?c3 ?_)
                    case c1 => rw [hz52]; omega
                    case c2 => unfold maxLen; omega
                    case c3 => exact Nat.le_refl _
                    intro w2 hown hgrow
                    have hb2 : Below wc.heap.size wc w2 := (Below.refl _ _).grown hgrow (Nat.le_refl _) (by intro k h; cases h)
                    obtain ⟨w3, hrun, hbs3, hb3⟩ := copy_run ((HB.out.below HB2.out).below hb2) hown hb2
                    have HF := hidden (And.intro hbs3 (And.intro (HA'.out.below hb3) (HB2.out.trans (hb3.mono HB2.out.size))))
                    clear hown hgrow hb2 hbs3 hb3
                    go_wp2
                    go_meet
                    case rel => exact ⟨_, _, rfl, HF.out.1, HF.out.2.1, HF.out.2.2⟩
                case rest =>
                  obtain ⟨b', d', rfl, hbb', hba', hb3⟩ := hcut
                  have hgood : Good wc x A C vs mx := Good.below ⟨HV.out, hvl, HNE.out, HLEN.out, HM.out⟩ hb3
                  have HG := hidden hgood
                  have HA3 := hidden hba'
                  have HB3 := hidden hbb'
                  have HW3 := hidden hb3
                  clear hbb' hba' hb3 hgood HA' HB2 HB HV HLEN HM
                  go_wp2
                  go_loop [11] (fun iv => ∃ k : Nat, k ≤ vs.length ∧ iv = .int .i64 k ∧ ∀ j, j < k → sep ∉ vs.getD j []) (fun iv => vs.length - (intOf iv).toNat)
                  case atStart => exact ⟨0, Nat.zero_le _, rfl, fun j h => by omega⟩
                  case round =>
                    obtain ⟨k, hk, rfl, hall⟩ := hrel
                    have HALL := hidden hall
                    clear hall
                    by_cases hlt : k < vs.length
                    · obtain ⟨bx, ox, rfl, _, hrow⟩ := HG.out.vals.row (by omega)
                      have hck := hrow k hlt
                      obtain ⟨u, hu⟩ : ∃ u, u = vs.getD k [] := ⟨_, rfl⟩
                      rw [← hu] at hck
                      have HH := hidden (holds_any (A k) (C k) u sep wc (by rw [hu]; exact HG.out.vals.each k hlt) (by rw [hu]; exact HG.out.len k hlt))
                      rw [← HY.out] at HH
                      have HU := hidden hu
                      clear hrow hu
                      go_wp2_with fail
                      refine HH.out.mono ?_
                      rintro e w0 ⟨q, rfl, hq, hw⟩
                      subst hw
                      cases q with
                      | true =>
                        clear hq
                        go_wp2
                        go_ret
                        unfold LawP
                        exact ⟨rfl, HW3.out⟩
                      | false =>
                        have HQ := hidden (hq rfl)
                        clear hq
                        go_wp2
                        go_round
                        case rel => exact ⟨k + 1, by omega, by go_num, fun j hj => by
                          rcases lt_succ_cases hj with h | h
                          · exact HALL.out j h
                          · subst h; rw [← HU.out]; exact HQ.out⟩
                        case measure => simp [intOf]; omega
                    · have hsep : ∀ v ∈ vs, sep ∉ v := fun v hv => by
                        obtain ⟨j, hj, rfl⟩ := mem_getD hv
                        exact HALL.out j (by omega)
                      have HSEP := hidden hsep
                      clear hsep HALL
                      have hl1 : (ta ++ [sep]).length = ta.length + 1 := by simp
                      have hl2 : ((ta ++ [sep]) ++ tb).length = ta.length + 1 + tb.length := by simp; omega
                      have sl0 := scan_length HNE.out ((ta ++ [sep]) ++ tb)
                      have sla := scan_length HNE.out ta
                      have slb := scan_length HNE.out tb
                      have hla : (scan vs ta ++ [sep]).length = (scan vs ta).length + 1 := by simp
                      have heq : scan vs ((ta ++ [sep]) ++ tb) = (scan vs ta ++ [sep]) ++ scan vs tb := by
                        have := scan_sep HNE.out HSEP.out tb ta.length ta (Nat.le_refl _)
                        simpa using this
                      have HL := hidden (And.intro hl1 (And.intro hl2 (And.intro sl0 (And.intro sla (And.intro slb (And.intro hla heq))))))
                      clear hl1 hl2 sl0 sla slb hla heq
                      obtain ⟨W0, hW0⟩ : ∃ W0, W0 = wc.alloc (.cells #[.int .u8 y] 5) := ⟨_, rfl⟩
                      have hbW : Below wc.heap.size wc W0 := by rw [hW0]; exact (Below.refl _ _).alloc (Nat.le_refl _) _
                      have hone : BS W0 (some ⟨wc.heap.size, 0, none⟩) 1 [sep] := by
                        refine ⟨by simp, (fun h => by cases h), fun _ => ⟨wc.heap.size, 0, rfl, by rw [hW0]; simp, fun i hi => ?_⟩⟩
                        obtain rfl : i = 0 := by simp at hi; omega
                        rw [hW0, HY.out]; simp
                      have G0 := hidden (HG.out.below hbW)
                      have A0 := hidden (HA3.out.below hbW)
                      have B0 := hidden (HB3.out.below hbW)
                      have O0 := hidden hone
                      have W00 := hidden (HW3.out.trans (hbW.mono HW3.out.size))
                      go_wp2_with fail
                      rw [← hW0]
                      clear hW0 hbW hone HG HA3 HB3 HW3 hlt hk
                      refine (concat_n a' (some ⟨wc.heap.size, 0, none⟩) c' 1 ta.length 1 ta [sep] W0 A0.out O0.out rfl rfl (by omega) (by simp)).mono ?_
                      rintro e w1 ⟨p1, q1, n1, rfl, hn1, hr1, hb1⟩
                      have G1 := hidden (G0.out.below hb1)
                      have A1 := hidden (A0.out.below hb1)
                      have B1 := hidden (B0.out.below hb1)
                      have O1 := hidden (O0.out.below hb1)
                      have W1 := hidden (W00.out.trans (hb1.mono W00.out.size))
                      have R1 := hidden hr1
                      have N1 := hidden hn1
                      clear hb1 hr1 hn1 G0 A0 B0 O0 W00
                      go_wp2_with fail
                      refine (concat_n p1 b' q1 d' n1 tb.length (ta ++ [sep]) tb w1 R1.out B1.out N1.out rfl (by rw [HL.out.1]; omega) (by omega)).mono ?_
                      rintro e w2 ⟨p2, q2, n2, rfl, hn2, hr2, hb2⟩
                      have G2 := hidden (G1.out.below hb2)
                      have A2 := hidden (A1.out.below hb2)
                      have B2 := hidden (B1.out.below hb2)
                      have O2 := hidden (O1.out.below hb2)
                      have W2 := hidden (W1.out.trans (hb2.mono W1.out.size))
                      have R2 := hidden hr2
                      have N2 := hidden hn2
                      clear hb2 hr2 hn2 G1 A1 B1 O1 W1 R1 N1
                      go_wp2_with fail
                      refine (redact_n x p2 cv q2 n2 A C vs ((ta ++ [sep]) ++ tb) mx w2 G2.out R2.out N2.out (by rw [HL.out.2.1]; omega)).mono ?_
                      rintro e w3 ⟨p3, q3, n3, rfl, hn3, hr3, hb3⟩
                      have G3 := hidden (G2.out.below hb3)
                      have A3 := hidden (A2.out.below hb3)
                      have B3 := hidden (B2.out.below hb3)
                      have O3 := hidden (O2.out.below hb3)
                      have W3 := hidden (W2.out.trans (hb3.mono W2.out.size))
                      have R3 := hidden hr3
                      have N3 := hidden hn3
                      clear hb3 hr3 hn3 G2 A2 B2 O2 W2 R2 N2
                      go_wp2_with fail
                      refine (redact_n x a' cv c' ta.length A C vs ta mx w3 G3.out A3.out rfl (by omega)).mono ?_
                      rintro e w4 ⟨p4, q4, n4, rfl, hn4, hr4, hb4⟩
                      have G4 := hidden (G3.out.below hb4)
                      have B4 := hidden (B3.out.below hb4)
                      have O4 := hidden (O3.out.below hb4)
                      have W4 := hidden (W3.out.trans (hb4.mono W3.out.size))
                      have R34 := hidden (R3.out.below hb4)
                      have R4 := hidden hr4
                      have N4 := hidden hn4
                      clear hb4 hr4 hn4 G3 A3 B3 O3 W3 R3
                      go_wp2_with fail
                      refine (concat_n p4 (some ⟨wc.heap.size, 0, none⟩) q4 1 n4 1 (scan vs ta) [sep] w4 R4.out O4.out N4.out rfl (by have := HL.out.2.2.2.1; omega) (by simp)).mono ?_
                      rintro e w5 ⟨p5, q5, n5, rfl, hn5, hr5, hb5⟩
                      have G5 := hidden (G4.out.below hb5)
                      have B5 := hidden (B4.out.below hb5)
                      have W5 := hidden (W4.out.trans (hb5.mono W4.out.size))
                      have R35 := hidden (R34.out.below hb5)
                      have R5 := hidden hr5
                      have N5 := hidden hn5
                      clear hb5 hr5 hn5 G4 B4 O4 W4 R34 R4 N4
                      go_wp2_with fail
                      refine (redact_n x b' cv d' tb.length A C vs tb mx w5 G5.out B5.out rfl (by omega)).mono ?_
                      rintro e w6 ⟨p6, q6, n6, rfl, hn6, hr6, hb6⟩
                      have W6 := hidden (W5.out.trans (hb6.mono W5.out.size))
                      have R36 := hidden (R35.out.below hb6)
                      have R56 := hidden (R5.out.below hb6)
                      have R6 := hidden hr6
                      have N6 := hidden hn6
                      clear hb6 hr6 hn6 G5 B5 W5 R35 R5
                      go_wp2_with fail
                      refine (concat_n p5 p6 q5 q6 n5 n6 (scan vs ta ++ [sep]) (scan vs tb) w6 R56.out R6.out N5.out N6.out (by rw [HL.out.2.2.2.2.2.1]; have := HL.out.2.2.2.1; omega) (by have := HL.out.2.2.2.2.1; omega)).mono ?_
                      rintro e w7 ⟨p7, q7, n7, rfl, hn7, hr7, hb7⟩
                      have W7 := hidden (W6.out.trans (hb7.mono W6.out.size))
                      have R37 := hidden (R36.out.below hb7)
                      rw [← HL.out.2.2.2.2.2.2] at hn7 hr7
                      have R7 := hidden hr7
                      have N7 := hidden hn7
                      clear hb7 hr7 hn7 W6 R36 R56 R6 N5 N6
                      go_wp2_with fail
                      refine (eq_any p3 p7 q3 q7 n3 n7 (scan vs ((ta ++ [sep]) ++ tb)) w7 R37.out R7.out N3.out N7.out (by have := HL.out.2.2.1; have := HL.out.2.1; omega)).mono ?_
                      rintro e w8 ⟨rfl, hb8⟩
                      have W8 := hidden (W7.out.trans (hb8.mono W7.out.size))
                      clear hb8 W7 R37 R7 N3 N7
                      go_wp2
                      go_ret
                      unfold LawP
                      exact ⟨rfl, W8.out⟩
          · go_wp2
            go_ret
            unfold LawP
            exact ⟨rfl, Below.refl _ _⟩
        · go_wp2
          go_ret
          unfold LawP
          exact ⟨rfl, Below.refl _ _⟩
      · go_wp2
        go_ret
        unfold LawP
        exact ⟨rfl, Below.refl _ _⟩
    · go_wp2
      go_ret
      unfold LawP
      exact ⟨rfl, Below.refl _ _⟩

end Go.Proofs.Qxb6601367a.Rl
