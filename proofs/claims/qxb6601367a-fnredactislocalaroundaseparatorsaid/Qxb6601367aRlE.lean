import Derived.Test.Qxb6601367aRlD
namespace Go.Proofs.Qxb6601367a.Rl
open Go.RowKit

/-- What is asked of the list of values, in whatever world. -/
structure Good (w : World) (x : Option Addr) (A : Nat → Option Addr) (C : Nat → Nat) (vs : List (List UInt8)) (mx : Int) : Prop where
  vals : VS w x A C vs
  few : vs.length ≤ 1048576
  ne : ∀ v ∈ vs, v ≠ []
  len : ∀ r, r < vs.length → (vs.getD r []).length ≤ 1048576
  max : w.cell? ⟨0, 0, none⟩ = some (.int .i64 mx)
theorem Good.below {w w' : World} {x : Option Addr} {A : Nat → Option Addr} {C : Nat → Nat} {vs : List (List UInt8)} {mx : Int} (h : Good w x A C vs mx) (hb : Below w.heap.size w w') : Good w' x A C vs mx :=
  ⟨h.vals.below hb, h.few, h.ne, h.len, by rw [hb.cell (by exact World.block_lt_of_cell? w _ h.max)]; exact h.max⟩

theorem cut_any (x ba : Option Addr) (cv bc : Nat) (A : Nat → Option Addr) (C : Nat → Nat) (vs : List (List UInt8)) (t : List UInt8) (mx : Int) (w : World) (hg : Good w x A C vs mx) (hbs : BS w ba bc t) (htl : t.length ≤ 1048577) :
    Calls Try.prog 29 #[.agg #[.slice x vs.length cv], .slice ba t.length bc, .bool true] w (CutP w vs t) := by
  rcases Nat.eq_zero_or_pos vs.length with h0 | h0
  · obtain rfl : vs = [] := List.eq_nil_of_length_eq_zero h0
    refine (cut_none x ba cv t.length bc w).mono fun e w' ⟨he, hb⟩ => ?_
    unfold CutP
    rw [scan_none]
    exact ⟨ba, bc, _, _, he, hbs.below hb, hb⟩
  · exact cut_some x ba cv bc A C vs t mx w hg.vals hbs h0 hg.few htl hg.ne hg.len hg.max

def RedP (w : World) (vs : List (List UInt8)) (t : List UInt8) (e : Ending) (w' : World) : Prop :=
  ∃ (a : Option Addr) (c : Nat), e = .returned (.slice a (scan vs t).length c) ∧ BS w' a c (scan vs t) ∧ Below w.heap.size w w'

set_option maxHeartbeats 400000 in
theorem redact_any (x ba : Option Addr) (cv bc : Nat) (A : Nat → Option Addr) (C : Nat → Nat) (vs : List (List UInt8)) (t : List UInt8) (mx : Int) (w : World) (hg : Good w x A C vs mx) (hbs : BS w ba bc t) (htl : t.length ≤ 1048577) :
    Calls Try.prog 31 #[.agg #[.slice x vs.length cv], .slice ba t.length bc] w (RedP w vs t) := by
  have hb1 : Below w.heap.size w (w.alloc (.cells #[.slice x vs.length cv] 46)) := (Below.refl _ _).alloc (Nat.le_refl _) _
  have HC := hidden (cut_any x ba cv bc A C vs t mx _ (hg.below hb1) (hbs.below hb1) htl)
  have HB := hidden hb1
  clear hg hbs hb1
  go_enter Try.func31, Try.ntmps31
  go_wp2_with fail
  refine HC.out.mono ?_
  rintro e w2 ⟨a, c, r, m, rfl, hbs2, hb2⟩
  have HF := hidden (And.intro hbs2 (HB.out.trans (hb2.mono (by simp))))
  clear hbs2 hb2
  go_wp2
  go_ret
  unfold RedP
  exact ⟨a, c, rfl, HF.out.1, HF.out.2⟩

set_option maxHeartbeats 400000 in
theorem zzredact_any (x ba : Option Addr) (cv bc n : Nat) (A : Nat → Option Addr) (C : Nat → Nat) (vs : List (List UInt8)) (t : List UInt8) (mx : Int) (w : World) (hg : Good w x A C vs mx) (hbs : BS w ba bc t) (hn : n = t.length) (htl : t.length ≤ 1048577) :
    Calls Try.prog 17 #[.slice x vs.length cv, .slice ba n bc] w (RedP w vs t) := by
  subst hn
  have HC := hidden (redact_any x ba cv bc A C vs t mx w hg hbs htl)
  clear hg hbs
  go_enter Try.func17, Try.ntmps17
  go_wp2_with fail
  refine HC.out.mono ?_
  rintro e w2 ⟨a, c, rfl, hbs2, hb2⟩
  have HF := hidden (And.intro hbs2 hb2)
  clear hbs2 hb2
  go_wp2
  go_ret
  unfold RedP
  exact ⟨a, c, rfl, HF.out.1, HF.out.2⟩

end Go.Proofs.Qxb6601367a.Rl
