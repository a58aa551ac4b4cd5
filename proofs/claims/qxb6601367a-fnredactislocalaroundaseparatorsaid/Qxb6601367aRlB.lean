import Derived.Test.Qxb6601367aRlA
namespace Go.Proofs.Qxb6601367a.Rl
open Go.RowKit

theorem toNat_ne {a b : UInt8} (h : a ≠ b) : (((a.toNat : Int)) == (b.toNat : Int)) = false := by
  simp only [beq_eq_false_iff_ne, ne_eq]
  intro e
  exact h (UInt8.toNat_inj.1 (by omega))
theorem getD_mem8 {s : List UInt8} {k : Nat} (h : k < s.length) : s.getD k 0 ∈ s := by simp [List.getElem?_eq_getElem h]

def HoldsP (s : List UInt8) (sep : UInt8) (w : World) (e : Ending) (w' : World) : Prop := ∃ q : Bool, e = .returned (.bool q) ∧ (q = false → sep ∉ s) ∧ w = w'

set_option maxHeartbeats 400000 in
theorem holds_any (a : Option Addr) (c : Nat) (s : List UInt8) (sep : UInt8) (w : World) (h : BS w a c s) (hl : s.length ≤ 1048576) :
    Calls Try.prog 20 #[.slice a s.length c, .int .u8 (sep.toNat : Int)] w (HoldsP s sep w) := by
  have H := hidden h
  clear h
  go_enter Try.func20, Try.ntmps20
  go_wp2
  go_loop [5] (fun i => ∃ k : Nat, k ≤ s.length ∧ i = .int .i64 k ∧ ∀ j, j < k → s.getD j 0 ≠ sep) (fun i => s.length - (intOf i).toNat)
  case atStart => exact ⟨0, Nat.zero_le _, rfl, fun j h => by omega⟩
  case round =>
    obtain ⟨k, hk, rfl, hall⟩ := hrel
    have HA := hidden hall
    clear hall
    by_cases hlt : k < s.length
    · obtain ⟨b, o, rfl, _, hc⟩ := H.out.cell (by omega)
      have hcell := hc k hlt
      obtain ⟨x, hx⟩ : ∃ x : Int, x = ((s.getD k 0).toNat : Int) := ⟨_, rfl⟩
      obtain ⟨y, hy⟩ : ∃ y : Int, y = (sep.toNat : Int) := ⟨_, rfl⟩
      rw [← hx] at hcell
      rw [← hy]
      by_cases he : s.getD k 0 = sep
      · have hxy : (x == y) = true := by rw [hx, hy, he]; simp
        clear hc he hx hy
        go_wp2
        go_ret
        unfold HoldsP
        exact ⟨true, rfl, (fun h => by cases h), rfl⟩
      · have hxy : (x == y) = false := by rw [hx, hy]; exact toNat_ne he
        have HE := hidden he
        clear hc he hx hy
        go_wp2
        go_round
        case rel => exact ⟨k + 1, by omega, by go_num, fun j hj => by
          rcases Nat.lt_or_eq_of_le (Nat.le_of_lt_succ hj) with h | h
          · exact HA.out j h
          · subst h; exact HE.out⟩
        case measure => simp [intOf]; omega
    · go_wp2
      go_ret
      unfold HoldsP
      refine ⟨false, rfl, fun _ hm => ?_, rfl⟩
      obtain ⟨j, hj, he⟩ := List.getElem_of_mem hm
      exact HA.out j (by omega) (by simp [List.getElem?_eq_getElem hj, he])

set_option maxHeartbeats 400000 in
theorem eq_any (a1 a2 : Option Addr) (c1 c2 n1 n2 : Nat) (s : List UInt8) (w : World) (h1 : BS w a1 c1 s) (h2 : BS w a2 c2 s) (hn1 : n1 = s.length) (hn2 : n2 = s.length) (hl : s.length ≤ 1099511627776) :
    Calls Try.prog 14 #[.slice a1 n1 c1, .slice a2 n2 c2] w fun e w' => e = .returned (.bool true) ∧ Below w.heap.size w w' := by
  subst hn1 hn2
  have H1 := hidden h1
  have H2 := hidden h2
  clear h1 h2
  go_enter Try.func14, Try.ntmps14
  go_wp2
  go_loopw [5] (fun i wr => ∃ k : Nat, k ≤ s.length ∧ i = .int .i64 k ∧ Below w.heap.size w wr) (fun i _ => s.length - (intOf i).toNat)
  case atStart => exact ⟨0, Nat.zero_le _, rfl, Below.refl _ _⟩
  case round =>
    obtain ⟨k, hk, rfl, hbr⟩ := hrel
    by_cases hlt : k < s.length
    · obtain ⟨b1, o1, rfl, _, hc1⟩ := (H1.out.below hbr).cell (by omega)
      obtain ⟨b2, o2, rfl, _, hc2⟩ := (H2.out.below hbr).cell (by omega)
      have g1 := hc1 k hlt
      have g2 := hc2 k hlt
      obtain ⟨x, hx⟩ : ∃ x : Int, x = ((s.getD k 0).toNat : Int) := ⟨_, rfl⟩
      rw [← hx] at g1 g2
      have HB := hidden hbr
      clear hbr hc1 hc2 hx
      go_wp2
      go_quiet (fail)
      go_wp2
      go_roundw
      case rel => exact ⟨k + 1, by omega, by go_num, below_drewN HB.out _⟩
      case measure => simp [intOf]; omega
    · go_wp2
      go_ret
      exact ⟨rfl, hbr⟩

set_option maxHeartbeats 400000 in
theorem concat_any (a1 a2 : Option Addr) (c1 c2 n1 n2 : Nat) (s t : List UInt8) (w : World) (h1 : BS w a1 c1 s) (h2 : BS w a2 c2 t) (hn1 : n1 = s.length) (hn2 : n2 = t.length) (hs : s.length ≤ 1099511627776) (ht : t.length ≤ 1099511627776) :
    Calls Try.prog 16 #[.slice a1 n1 c1, .slice a2 n2 c2] w fun e w' => ∃ a c, e = .returned (.slice a (s ++ t).length c) ∧ BS w' a c (s ++ t) ∧ Below w.heap.size w w' := by
  subst hn1 hn2
  have H1 := hidden h1
  have H2 := hidden h2
  clear h1 h2
  obtain ⟨i0, hi, hz0, hz1, hz2⟩ := info_parts info5
  go_enter Try.func16, Try.ntmps16
  go_wp2_with (at_make; refine wpList_make_own _ rfl _ _ 23 rfl w.heap.size 5 i0 (.int .u8 0) 1 Try.underlying23 hi hz0 hz1 .i64 .i64 _ (s.length + t.length) rfl rfl ?c0 ?c1 ?c2 ?c3 ?_)
  case c0 => go_num
  case c1 => rw [hz2]; omega
  case c2 => unfold maxLen; omega
  case c3 => exact Nat.le_refl _
  intro w1 hown hgrow
  have hb1 : Below w.heap.size w w1 := (Below.refl _ _).grown hgrow (Nat.le_refl _) (by intro k h; cases h)
  have HO := hidden hown
  have HB := hidden hb1
  clear hown hgrow hb1
  go_wp2_with (at_builtin; refine wpList_append_bs rfl (.tmp 12) (.tmp 13) rfl w.heap.size _ 0 [] rfl HO.out _ _ _ s rfl rfl (H1.out.below HB.out) ?d1 ?d2 ?_)
  case d1 => omega
  case d2 => exact HB.out.size
  intro v2 w2 hown2 hgrow2
  have hb2 : Below w.heap.size w w2 := HB.out.grown hgrow2 HB.out.size (by intro k h; simp [Value.ownBlock] at h; omega)
  have HO2 := hidden hown2
  have HB2 := hidden hb2
  clear hown2 hgrow2 hb2 HO HB
  go_wp2_with (at_builtin; refine wpList_append_bs rfl (.tmp 15) (.tmp 16) rfl w.heap.size _ s.length (s.map bv) rfl HO2.out _ _ _ t rfl rfl (H2.out.below HB2.out) ?e1 ?e2 ?_)
  case e1 => omega
  case e2 => exact HB2.out.size
  intro v3 w3 hown3 hgrow3
  rw [← List.map_append] at hown3
  have hb3 : Below w.heap.size w w3 := HB2.out.grown hgrow3 HB2.out.size (fun k h => (HO2.out.lt k h).1)
  obtain ⟨a, c, hv, hbs⟩ := bs_of_own hown3
  have HBS := hidden hbs
  have HB3 := hidden hb3
  clear hown3 hgrow3 hb3 hbs HO2 HB2
  rw [hv]
  go_wp2
  go_ret
  exact ⟨a, c, rfl, HBS.out, HB3.out⟩

end Go.Proofs.Qxb6601367a.Rl
