import Derived.Test.Qxb6601097aDoorShelf
import Derived.Test.Qxb6601097aDoorRtB
import Derived.Deep.LoopGhost
namespace Go.Proofs.Qxb6601097aDoor.Rt
open Go.RowKit

theorem hidden {p : Prop} (h : p) : Hid p := h

/-! ### The parser in memory -/
theorem gb_trans {a b c : World} {row : Option Nat} (h : a.grownBy b row) (k : b.grownBy c row) : a.grownBy c row :=
  ⟨k.os.trans h.os, k.tape.trans h.tape, k.output.trans h.output, Nat.le_trans h.size k.size, fun i hi hr => (k.block i (Nat.lt_of_lt_of_le hi h.size) hr).trans (h.block i hi hr)⟩
theorem gb_drewN (w : World) (n : Nat) (row : Option Nat) : w.grownBy (w.drewN n) row := ⟨rfl, rfl, rfl, Nat.le_refl _, fun _ _ _ => rfl⟩
theorem gb_set (w : World) (n p o : Nat) (u : Value) : w.grownBy ((w.drewN n).setCell ⟨p, o, none⟩ u) (some p) :=
  ⟨rfl, rfl, rfl, by simp [World.drewN], fun k _ hr => Below.heap_setCell (w.drewN n) _ _ k (fun e => hr (by rw [e]))⟩
theorem gb_of_below {w w' : World} {row : Option Nat} (h : Below w.heap.size w w') : w.grownBy w' row := ⟨h.os, h.tape, h.output, h.size, fun k hk _ => h.block k hk⟩

/-- The parser p stands in the world: its text is the row tb, of length L; its place is k. -/
structure PS (w : World) (p tb L cap k : Nat) : Prop where
  text : w.cell? ⟨p, 0, none⟩ = some (.slice (some ⟨tb, 0, none⟩) L cap)
  pos : w.cell? ⟨p, 1, none⟩ = some (.int .i64 k)
  free : w.frozen? ⟨p, 1, none⟩ = false

theorem PS.lt {w : World} {p tb L cap k : Nat} (h : PS w p tb L cap k) : p < w.heap.size := World.block_lt_of_cell? w _ h.pos
theorem PS.set {w : World} {p tb L cap k : Nat} (h : PS w p tb L cap k) (n j : Nat) : PS ((w.drewN n).setCell ⟨p, 1, none⟩ (.int .i64 j)) p tb L cap j :=
  ⟨by rw [World.cell?_setCell_other _ _ _ _ (by simp)]; exact h.text, World.cell?_setCell_same _ _ _ (show (w.drewN n).cell? _ = _ from h.pos), by rw [World.frozen?_setCell]; exact h.free⟩
theorem PS.drewN {w : World} {p tb L cap k : Nat} (h : PS w p tb L cap k) (n : Nat) : PS (w.drewN n) p tb L cap k := ⟨h.text, h.pos, h.free⟩
theorem PS.kept {w w' : World} {p tb L cap k : Nat} {row : Option Nat} (h : PS w p tb L cap k) (g : w.grownBy w' row) (hr : some p ≠ row) : PS w' p tb L cap k :=
  ⟨g.cell h.text hr, g.cell h.pos hr, (World.frozen?_of_block (w := w) (a := ⟨p, 1, none⟩) (g.block p h.lt hr)).trans h.free⟩

theorem idx_space (w : World) : Calls Tryd.prog 35 #[.string ⟨#[32, 9, 10, 13, 12]⟩, .int .u8 32] w fun e w' => e = .returned (.int .i64 0) ∧ w' = w :=
  Tryd.strings_IndexByte _ _ _

theorem idx_other (q : Int) (h : Lib.indexByte [32, 9, 10, 13, 12] q.toNat.toUInt8 = -1) (w : World) : Calls Tryd.prog 35 #[.string ⟨#[32, 9, 10, 13, 12]⟩, .int .u8 q] w fun e w' => e = .returned (.int .i64 (-1)) ∧ w' = w := by
  have := Tryd.strings_IndexByte ⟨#[32, 9, 10, 13, 12]⟩ q w
  rw [show (⟨#[32, 9, 10, 13, 12]⟩ : ByteArray).data.toList = [32, 9, 10, 13, 12] from rfl, h] at this
  exact this

set_option maxHeartbeats 400000 in
theorem space_any (p tb L cap k m : Nat) (q : Int) (w : World) (hkm : k ≤ m) (hm : m < L) (hL : L ≤ 1099511627776) (hpt : tb ≠ p) (hps : PS w p tb L cap k)
    (hs : ∀ j, k ≤ j → j < m → w.cell? ⟨tb, j, none⟩ = some (.int .u8 32))
    (hc : w.cell? ⟨tb, m, none⟩ = some (.int .u8 q)) (hq : Lib.indexByte [32, 9, 10, 13, 12] q.toNat.toUInt8 = -1) :
    Calls Tryd.prog 28 #[.pointer (some ⟨p, 0, none⟩)] w fun e w' => e = .returned (.tuple #[]) ∧ PS w' p tb L cap m ∧ w.grownBy w' (some p) := by
  have hi1 : Hid _ := idx_space
  have hi2 : Hid _ := idx_other q hq
  clear hq
  go_enter Tryd.func28, Tryd.ntmps28
  go_wp2
  go_loopg [] (m - k) (fun r wr => ∃ j, k ≤ j ∧ j ≤ m ∧ r = m - j ∧ PS wr p tb L cap j ∧ w.grownBy wr (some p))
  case atStart => exact ⟨k, Nat.le_refl _, hkm, rfl, hps, World.grownBy.refl _ _⟩
  case round =>
    obtain ⟨j, hj1, hj2, hgk, hpr, hg⟩ := hrel
    have hne : some tb ≠ some p := by simpa using hpt
    have hjL : j < L := by omega
    by_cases hjm : j < m
    · have hcell := hg.cell (hs j hj1 hjm) hne
      have h0 := hpr.text
      have h1 := hpr.pos
      have hf := hpr.free
      have HP : Hid _ := hpr
      have HG : Hid _ := hg
      have HK : Hid _ := hgk
      clear hs hc hpr hg hgk
      go_wp2
      go_quiet ((go_at_call 35; exact Calls.quiet_of_same (hi1.out _)))
      go_wp2
      go_roundg (m - (j + 1))
      case measure => have := HK.out; omega
      case rel => exact ⟨j + 1, by omega, by omega, rfl, HP.out.set _ _, gb_trans HG.out (gb_set _ _ _ _ _)⟩
    · obtain rfl : j = m := by omega
      have hcell := hg.cell hc hne
      have h0 := hpr.text
      have h1 := hpr.pos
      have hf := hpr.free
      have HP : Hid _ := hpr
      have HG : Hid _ := hg
      clear hs hc hpr hg hgk
      go_wp2
      go_quiet ((go_at_call 35; exact Calls.quiet_of_same (hi2.out _)))
      go_wp2
      go_end0
      exact ⟨rfl, HP.out.drewN _, gb_trans HG.out (gb_drewN _ _ _)⟩

end Go.Proofs.Qxb6601097aDoor.Rt
