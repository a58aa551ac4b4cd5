import Derived.Test.Qxb6601097aDoorRtF
namespace Go.Proofs.Qxb6601097aDoor.Rt
open Go.RowKit

theorem below_of_gb {w w' : World} {o : Obj} (g : (w.alloc o).grownBy w' (some w.heap.size)) : Below w.heap.size w w' :=
  ⟨g.os, g.tape, g.output, by have := g.size; simp at this; omega, fun k hk => (g.block k (by simp; omega) (by simp; omega)).trans (Below.heap_alloc w o k hk)⟩

set_option maxHeartbeats 1000000 in
theorem zztuple_any (tb cap : Nat) (t : List UInt8) (l : List Int) (W : World) (ht : t = shapeText l) (hl : l.length ≤ 131072) (hr : ∀ z ∈ l, 0 ≤ z ∧ z ≤ 9223372036854775807)
    (hcap : t.length ≤ cap) (hL : t.length ≤ 1099511627776) (htb : tb < W.heap.size) (htx : TextAt W tb t) :
    Calls Tryd.prog 13 #[.slice (some ⟨tb, 0, none⟩) t.length cap, .int .i64 0] W fun e w' => ∃ g c, e = .returned (.tuple #[.slice (some ⟨g, 0, none⟩) l.length c, .bool true, .int .i64 t.length]) ∧
      (∀ i, i < l.length → w'.cell? ⟨g, 0 + i, none⟩ = some (.int .i64 (l.getD i 0))) ∧ g < w'.heap.size ∧ Below W.heap.size W w' := by
  have hps : PS (W.alloc (.cells #[.slice (some ⟨tb, 0, none⟩) t.length cap, .int .i64 0] 40)) W.heap.size tb t.length cap 0 :=
    ⟨by simp, by simp, by simp⟩
  have htx' : TextAt (W.alloc (.cells #[.slice (some ⟨tb, 0, none⟩) t.length cap, .int .i64 0] 40)) tb t := fun j hj => (World.grownBy_alloc W _ none).cell (htx j hj) (by simp)
  have H := hidden (tuple_any W.heap.size tb cap t l _ ht hl hr (by omega) hps hcap hL htx')
  clear hps htx' htx hr ht
  go_enter Tryd.func13, Tryd.ntmps13
  go_wp2_with fail
  refine H.out.mono ?_
  rintro e w2 ⟨g, c, rfl, ho, hp, hg⟩
  have h1 := hp.pos
  have HF := hidden (And.intro ho (below_of_gb hg))
  clear ho hp hg H
  go_wp2
  go_quiet (fail)
  go_wp2
  go_ret3
  refine ⟨g, c, rfl, fun i hi => ?_, (HF.out.1.lt g rfl).2, below_drewN HF.out.2 _⟩
  show w2.cell? _ = _
  rw [Nat.zero_add, HF.out.1.cellAt i (by omega)]
  simp [List.getElem?_eq_getElem hi]

end Go.Proofs.Qxb6601097aDoor.Rt
