import Derived.Test.Qxb6601097aDoorRtG
import Derived.Lib.ConvBytes
import Derived.OpenShut
namespace Go.Proofs.Qxb6601097aDoor.Rt
open Go.RowKit

set_option maxHeartbeats 400000 in
theorem clone_empty (x : Addr) (cap : Nat) (w : World) :
    Calls Tryd.prog 9 #[.slice (some x) 0 cap] w fun e w' => e = .returned (.slice (some ⟨w.heap.size, 0, none⟩) 0 0) ∧
      w'.ownsRow w.heap.size 2 1 (.slice (some ⟨w.heap.size, 0, none⟩) 0 0) 0 [] ∧ Below w.heap.size w w' := by
  have k1 := @Lib.run_eql_slice_nil Tryd.prog
  obtain ⟨i0, hi, hz0, hz1, hz2⟩ := info_parts info2
  go_enter Tryd.func9, Tryd.ntmps9
  go_wp2_with (at_make; refine wpList_make_full _ rfl _ _ 22 rfl w.heap.size 2 i0 (.int .i64 0) 1 Tryd.underlying22 hi hz0 hz1 .i64 .i64 _ _ 0 rfl rfl rfl rfl ?c1 ?c2 ?c3 ?_)
  case c1 => rw [hz2]; omega
  case c2 => unfold maxLen; omega
  case c3 => exact Nat.le_refl _
  intro w1 hown hgrow
  have hbel : Below w.heap.size w w1 := (Below.refl _ _).grown hgrow (Nat.le_refl _) (by intro k h; cases h)
  have hown0 : w1.ownsRow w.heap.size 2 1 (.slice (some ⟨w.heap.size, 0, none⟩) 0 0) 0 [] := by simpa [madeCells] using hown
  have HO := hidden hown0
  have HB := hidden hbel
  clear hown hgrow hbel hown0
  go_wp2
  go_loop [4] (fun i => i = .int .i64 0) (fun _ => 0)
  case atStart => rfl
  case round =>
    subst hrel
    go_wp2
    go_ret
    exact ⟨rfl, HO.out, HB.out⟩

/-- The clone, wherever the slice lies. -/
theorem clone_any (x : Addr) (len cap : Nat) (zs : List Int) (w : World) (hlen : len ≤ 131072) (hz : len ≤ zs.length) (hc : ∀ i, i < len → w.cell? (x.add i) = some (.int .i64 (zs.getD i 0))) :
    Calls Tryd.prog 9 #[.slice (some x) len cap] w fun e w' => e = .returned (.slice (some ⟨w.heap.size, 0, none⟩) len len) ∧
      (∀ i, i < len → w'.cell? ⟨w.heap.size, 0 + i, none⟩ = some (.int .i64 (zs.getD i 0))) ∧ w.heap.size < w'.heap.size ∧ Below w.heap.size w w' := by
  have fin : ∀ (w' : World), w'.ownsRow w.heap.size 2 1 (.slice (some ⟨w.heap.size, 0, none⟩) len len) len ((zs.take len).map (Value.int .i64)) →
      (∀ i, i < len → w'.cell? ⟨w.heap.size, 0 + i, none⟩ = some (.int .i64 (zs.getD i 0))) ∧ w.heap.size < w'.heap.size := by
    intro w' ho
    refine ⟨fun i hi => ?_, (ho.lt _ rfl).2⟩
    rw [Nat.zero_add, ho.cellAt i (by omega)]
    have hi' : i < zs.length := by omega
    simp [hi, List.getElem?_eq_getElem hi']
  rcases Nat.eq_zero_or_pos len with h0 | h0
  · subst h0
    refine (clone_empty x cap w).mono fun e w' ⟨h1, h2, h3⟩ => ⟨h1, ?_, ?_, h3⟩
    · exact fun i hi => by omega
    · exact (h2.lt _ rfl).2
  · obtain ⟨b, off, rfl, hcell⟩ : ∃ b off, x = ⟨b, off, none⟩ ∧ ∀ i, i < len → w.cell? ⟨b, off + i, none⟩ = some (.int .i64 (zs.getD i 0)) := by
      obtain ⟨b, off, spot⟩ := x
      have hspot : spot = none := by simpa [Addr.add] using World.cell?_spot (hc 0 h0)
      subst hspot
      exact ⟨b, off, rfl, fun j hj => by rw [← Go.WideShapes.add_plain]; exact hc j hj⟩
    refine (clone_some b off len cap zs w hlen hz hcell ?_).mono fun e w' ⟨h1, h2, h3⟩ => ⟨h1, (fin w' h2).1, (fin w' h2).2, h3⟩
    exact World.block_lt_of_cell? w _ (hcell 0 h0)

/-- The bytes of a text, laid by the conversion. -/
theorem text_laid (w : World) (s : ByteArray) (t : List UInt8) (ht : s.data.toList = t) : TextAt (Lib.bytesWorld w 5 s) w.heap.size t := by
  intro j hj
  subst ht
  exact Lib.bytesWorld_cell w 5 s j (by simpa using hj)

theorem zztuple_text (w : World) (s : ByteArray) (l : List Int) (hs : s.data.toList = shapeText l) (hl : l.length ≤ 131072) (hr : ∀ z ∈ l, 0 ≤ z ∧ z ≤ 9223372036854775807) :
    Calls Tryd.prog 13 #[.slice (some ⟨w.heap.size, 0, none⟩) s.size (grownCap w s.size 0 5), .int .i64 0] (Lib.bytesWorld w 5 s) fun e w' => ∃ g c, e = .returned (.tuple #[.slice (some ⟨g, 0, none⟩) l.length c, .bool true, .int .i64 s.size]) ∧
      (∀ i, i < l.length → w'.cell? ⟨g, 0 + i, none⟩ = some (.int .i64 (l.getD i 0))) ∧ g < w'.heap.size ∧ Below w.heap.size w w' := by
  have hsz : s.size = (shapeText l).length := by rw [← hs]; simp
  have hlen := shapeText_length l fun z hz => by have := hr z hz; omega
  have := zztuple_any w.heap.size (grownCap w s.size 0 5) (shapeText l) l (Lib.bytesWorld w 5 s) rfl hl hr (by rw [← hsz]; exact grownCap_ge _ _ _ _) (by omega) (by rw [Lib.bytesWorld_size]; omega) (text_laid w s _ hs)
  rw [← hsz] at this
  refine this.mono ?_
  rintro e w' ⟨g, c, h1, h2, h3, h4⟩
  exact ⟨g, c, h1, h2, h3, (Lib.bytesWorld_below w 5 s).trans (h4.mono (by rw [Lib.bytesWorld_size]; omega))⟩

set_option maxRecDepth 20000 in
set_option maxHeartbeats 1000000 in
theorem law_some (x : Addr) (len cap : Nat) (zs : List Int) (w : World) (hz : len ≤ zs.length) (hlen : len ≤ 131072) (hr : ∀ z ∈ zs, -9223372036854775808 ≤ z ∧ z ≤ 9223372036854775807)
    (hc : ∀ i, i < len → w.cell? (x.add i) = some (.int .i64 (zs.getD i 0))) (htab : TabW w) :
    Calls Tryd.prog 4 #[.slice (some x) len cap] w fun e w' => e = .returned (.bool true) ∧ Below w.heap.size w w' := by
  have kc := fun (w : World) (s : ByteArray) => Lib.run_convert_string_bytes (P := Tryd.prog) w 9 26 5 s Tryd.underlying9 Tryd.underlying26 Tryd.underlying5
  have kn := @run_neq_slice_nil_any Tryd.prog
  have HC := hidden hc
  have HR := hidden hr
  have HT := hidden htab
  clear hc hr htab
  go_enter Tryd.func4, Tryd.ntmps4
  go_wp2_with (go_at_call 12; refine (zzBytes_yes _ _ _ _ (by omega)).mono ?_; rintro e w' ⟨rfl, rfl⟩)
  go_loop [3] (fun i => ∃ k : Nat, k ≤ len ∧ i = .int .i64 k ∧ ∀ j, j < k → 0 ≤ zs.getD j 0) (fun i => len - (intOf i).toNat)
  case atStart => exact ⟨0, Nat.zero_le _, rfl, fun j h => by omega⟩
  case round =>
    obtain ⟨k, hk, rfl, hall⟩ := hrel
    have HA := hidden hall
    clear hall
    by_cases hlt : k < len
    · obtain ⟨v, hv⟩ : ∃ v, v = zs.getD k 0 := ⟨_, rfl⟩
      have hcell := HC.out k hlt
      rw [← hv] at hcell
      have HV := hidden hv
      clear hv
      by_cases hneg : v < 0
      · go_wp2
        go_ret
        exact ⟨rfl, Below.refl _ _⟩
      · go_wp2
        go_round
        case rel => exact ⟨k + 1, by omega, by go_num, fun j hj => by
          rcases Nat.lt_or_eq_of_le (Nat.le_of_lt_succ hj) with h | h
          · exact HA.out j h
          · subst h; rw [← HV.out]; omega⟩
        case measure => simp [intOf]; omega
    · obtain rfl : k = len := by omega
      have hnn : ∀ z ∈ zs.take k, 0 ≤ z ∧ z ≤ 9223372036854775807 := by
        intro z hzm
        obtain ⟨j, hj, rfl⟩ := List.getElem_of_mem hzm
        have hj' : j < k := by simp at hj; omega
        have h1 := HA.out j hj'
        have h2 := HR.out (zs.getD j 0) (getD_mem (by omega))
        have e : (zs.take k)[j] = zs.getD j 0 := by simp [List.getElem?_eq_getElem (show j < zs.length by omega)]
        rw [e]; omega
      have HNN := hidden hnn
      have hln : (zs.take k).length = k := by simp; omega
      have HLN := hidden hln
      have HCl := hidden (clone_any x k cap zs w hlen hz HC.out)
      clear hnn hln hk hlt
      go_wp2_with fail
      refine HCl.out.mono ?_
      rintro e w1 ⟨rfl, hc1, hs1, hb1⟩
      have HSh := hidden (zzshape_some w.heap.size 0 k k zs w1 hlen hz HR.out hc1 hs1 (tabW_below HT.out hb1 (Nat.le_refl _)))
      have HC1 := hidden hc1
      have HB1 := hidden hb1
      clear hc1 hb1 HCl
      go_wp2_with fail
      refine HSh.out.mono ?_
      rintro e w2 ⟨s, rfl, hst, hb2⟩
      have HTu := hidden (zztuple_text w2 s (zs.take k) hst (by rw [HLN.out]; exact hlen) HNN.out)
      rw [HLN.out] at HTu
      have HB2 := hidden hb2
      clear hst hb2 HSh
      go_wp2_with fail
      refine HTu.out.mono ?_
      rintro e w3 ⟨g, c, rfl, hc3, hg3, hb3⟩
      have hb13 := HB2.out.trans (hb3.mono HB2.out.size)
      have HSa := hidden (sameInts_yes g 0 c w.heap.size 0 k k (zs.take k) w3 hlen hc3 (fun i hi => by
        rw [hb13.cell (by exact hs1), HC1.out i hi]
        have hi' : i < zs.length := by omega
        simp [hi, List.getElem?_eq_getElem hi']) hg3 (Nat.lt_of_lt_of_le hs1 hb13.size))
      have HB3 := hidden (HB1.out.trans (hb13.mono HB1.out.size))
      clear hc3 hb3 hb13 HTu HC1 HB1 HB2
      go_wp2_with fail
      refine HSa.out.mono ?_
      rintro e w4 ⟨rfl, hb4⟩
      have HB4 := hidden (HB3.out.trans (hb4.mono HB3.out.size))
      clear hb4 HB3 HSa
      go_wp2
      go_ret
      exact ⟨rfl, HB4.out⟩

set_option maxRecDepth 20000 in
set_option maxHeartbeats 1000000 in
theorem law_nil (w : World) :
    Calls Tryd.prog 4 #[.slice none 0 0] w fun e w' => e = .returned (.bool true) ∧ Below w.heap.size w w' := by
  have kc := fun (w : World) (s : ByteArray) => Lib.run_convert_string_bytes (P := Tryd.prog) w 9 26 5 s Tryd.underlying9 Tryd.underlying26 Tryd.underlying5
  have kn := @run_neq_slice_nil_any Tryd.prog
  go_enter Tryd.func4, Tryd.ntmps4
  go_wp2_with (go_at_call 12; refine (zzBytes_yes _ _ _ _ (by omega)).mono ?_; rintro e w' ⟨rfl, rfl⟩)
  go_loop [3] (fun i => i = .int .i64 0) (fun _ => 0)
  case atStart => rfl
  case round =>
    subst hrel
    go_wp2_with fail
    refine (clone_nil w).mono ?_
    rintro e w1 ⟨rfl, hw1⟩
    subst hw1
    go_wp2_with fail
    refine (zzshape_nil w1).mono ?_
    rintro e w2 ⟨s, rfl, hst, hb2⟩
    have HTu := hidden (zztuple_text w2 s [] hst (by simp) (by simp))
    have HB2 := hidden hb2
    clear hst hb2
    go_wp2_with fail
    refine HTu.out.mono ?_
    rintro e w3 ⟨g, c, rfl, hc3, hg3, hb3⟩
    have HB3 := hidden (HB2.out.trans (hb3.mono HB2.out.size))
    clear hc3 hg3 hb3 HB2 HTu
    go_wp2_with fail
    refine (sameInts_none _ _ _ _ _).mono ?_
    rintro e w4 ⟨rfl, hw4⟩
    subst hw4
    go_wp2
    go_ret
    exact ⟨rfl, HB3.out⟩

set_option maxHeartbeats 400000 in
theorem law_long (a : Option Addr) (len cap : Nat) (w : World) (h1 : 131072 < len) (h2 : len ≤ 1048576) :
    Calls Tryd.prog 4 #[.slice a len cap] w fun e w' => e = .returned (.bool true) ∧ Below w.heap.size w w' := by
  go_enter Tryd.func4, Tryd.ntmps4
  go_wp2_with (go_at_call 12; refine (zzBytes_yes _ _ _ _ (by omega)).mono ?_; rintro e w' ⟨rfl, rfl⟩)
  go_ret
  exact ⟨rfl, Below.refl _ _⟩

set_option maxHeartbeats 400000 in
theorem law_longer (a : Option Addr) (len cap : Nat) (w : World) (h1 : 1048576 < len) :
    Calls Tryd.prog 4 #[.slice a len cap] w fun e w' => e = .returned (.bool true) ∧ Below w.heap.size w w' := by
  go_enter Tryd.func4, Tryd.ntmps4
  go_wp2_with (go_at_call 12; refine (zzBytes_no _ _ _ _ (by omega)).mono ?_; rintro e w' ⟨rfl, rfl⟩)
  go_ret
  exact ⟨rfl, Below.refl _ _⟩

/-- What the walk is told of the slice that came in: it is nil; or it leads to a row of 'cap' cells, the numbers 'zs'. -/
def IsRow (k : IntKind) (w : World) (a : Option Addr) (len cap : Nat) (zs : List Int) : Prop :=
  (a = none ∧ len = 0 ∧ cap = 0 ∧ zs = []) ∨
  ∃ x, a = some x ∧ len ≤ cap ∧ cap ≤ maxLen ∧ zs.length = cap ∧ (∀ i, i < zs.length → w.cell? (x.add i) = some (.int k (zs.getD i 0))) ∧ ∀ n ∈ zs, (Lit.int k n).wf = true

theorem walk (a0 : Option Addr) (len0 cap0 : Nat) (z0 : List Int) (w : World) (w0 : IsRow .i64 w a0 len0 cap0 z0) (htab : TabW w) :
    Calls Tryd.prog 4 #[.slice a0 len0 cap0] w fun e w' => e = .returned (.bool true) ∧ Below w.heap.size w w' := by
  rcases w0 with ⟨rfl, rfl, rfl, rfl⟩ | ⟨x, rfl, hl, _, hz, hc, hwf⟩
  · exact law_nil w
  · by_cases h1 : 1048576 < len0
    · exact law_longer _ _ _ _ h1
    · by_cases h2 : 131072 < len0
      · exact law_long _ _ _ _ h2 (by omega)
      · exact law_some x len0 cap0 z0 w (by omega) (by omega) (fun z hzm => by
          have := bounds_i64 (hwf z hzm)
          omega) (fun i hi => hc i (by omega)) htab

end Go.Proofs.Qxb6601097aDoor.Rt
