import Derived.Test.Qxb6601097aDoorRows
import Derived.WalkKit
import Derived.WalkSpells
import Derived.WalkLawsBesides
import Derived.Deep.QuietTactic
import Derived.BigQuiet
namespace Go.Proofs.Qxb6601097aDoor.Rt
open Go.RowKit

set_option maxHeartbeats 400000 in
theorem take_yes (p tb L cap k : Nat) (c : Int) (w : World) (h0 : w.cell? ⟨p, 0, none⟩ = some (.slice (some ⟨tb, 0, none⟩) L cap)) (h1 : w.cell? ⟨p, 1, none⟩ = some (.int .i64 k))
    (hf : w.frozen? ⟨p, 1, none⟩ = false) (hk : k < L) (hL : L ≤ 1099511627776) (hc : w.cell? ⟨tb, k, none⟩ = some (.int .u8 c)) :
    Calls Tryd.prog 27 #[.pointer (some ⟨p, 0, none⟩), .int .u8 c] w fun e w' => e = .returned (.bool true) ∧ ∃ n, w' = (w.drewN n).setCell ⟨p, 1, none⟩ (.int .i64 (k + 1)) := by
  have hd : decide ((k : Int) < L) = true := by simpa using hk
  go_enter Tryd.func27, Tryd.ntmps27
  go_wp2
  go_quiet (fail)
  go_wp2
  go_ret
  exact ⟨rfl, nq, rfl⟩

set_option maxHeartbeats 400000 in
theorem take_no (p tb L cap k : Nat) (c q : Int) (w : World) (h0 : w.cell? ⟨p, 0, none⟩ = some (.slice (some ⟨tb, 0, none⟩) L cap)) (h1 : w.cell? ⟨p, 1, none⟩ = some (.int .i64 k))
    (hk : k < L) (hc : w.cell? ⟨tb, k, none⟩ = some (.int .u8 q)) (hq : (q == c) = false) :
    Calls Tryd.prog 27 #[.pointer (some ⟨p, 0, none⟩), .int .u8 c] w fun e w' => e = .returned (.bool false) ∧ ∃ n, w' = w.drewN n := by
  have hd : decide ((k : Int) < L) = true := by simpa using hk
  go_enter Tryd.func27, Tryd.ntmps27
  go_wp2
  go_quiet (fail)
  go_wp2
  go_ret
  exact ⟨rfl, nq, rfl⟩

set_option maxHeartbeats 400000 in
theorem take_end (p tb L cap k : Nat) (c : Int) (w : World) (h0 : w.cell? ⟨p, 0, none⟩ = some (.slice (some ⟨tb, 0, none⟩) L cap)) (h1 : w.cell? ⟨p, 1, none⟩ = some (.int .i64 k))
    (hk : ¬ k < L) :
    Calls Tryd.prog 27 #[.pointer (some ⟨p, 0, none⟩), .int .u8 c] w fun e w' => e = .returned (.bool false) ∧ ∃ n, w' = w.drewN n := by
  have hd : decide ((k : Int) < L) = false := by simpa using hk
  go_enter Tryd.func27, Tryd.ntmps27
  go_wp2
  go_quiet (fail)
  go_wp2
  go_ret
  exact ⟨rfl, nq, rfl⟩

theorem same_cells {w wr : World} {b o i : Nat} {v : Value} (hb : Below w.heap.size w wr) (h : w.cell? ⟨b, o + i, none⟩ = some v) (hlt : b < w.heap.size) : wr.cell? ⟨b, o + i, none⟩ = some v := by
  rw [hb.cell (by exact hlt)]; exact h

set_option maxHeartbeats 400000 in
theorem sameInts_yes (b1 o1 c1 b2 o2 c2 len : Nat) (zs : List Int) (w : World) (hlen : len ≤ 131072)
    (h1 : ∀ i, i < len → w.cell? ⟨b1, o1 + i, none⟩ = some (.int .i64 (zs.getD i 0))) (h2 : ∀ i, i < len → w.cell? ⟨b2, o2 + i, none⟩ = some (.int .i64 (zs.getD i 0)))
    (hb1 : b1 < w.heap.size) (hb2 : b2 < w.heap.size) :
    Calls Tryd.prog 14 #[.slice (some ⟨b1, o1, none⟩) len c1, .slice (some ⟨b2, o2, none⟩) len c2] w fun e w' => e = .returned (.bool true) ∧ Below w.heap.size w w' := by
  go_enter Tryd.func14, Tryd.ntmps14
  go_wp2
  go_loopw [5] (fun i wr => ∃ k : Nat, k ≤ len ∧ i = .int .i64 k ∧ Below w.heap.size w wr) (fun i _ => len - (intOf i).toNat)
  case atStart => exact ⟨0, Nat.zero_le _, rfl, Below.refl _ _⟩
  case round =>
    obtain ⟨k, hk, rfl, hbr⟩ := hrel
    by_cases hlt : k < len
    · obtain ⟨v, hv⟩ : ∃ v, v = zs.getD k 0 := ⟨_, rfl⟩
      have g1 := same_cells hbr (h1 k hlt) hb1
      have g2 := same_cells hbr (h2 k hlt) hb2
      rw [← hv] at g1 g2
      have hbr' : Hid _ := hbr
      clear hv h1 h2 hbr
      go_wp2
      go_quiet (fail)
      go_wp2
      go_roundw
      case rel => exact ⟨k + 1, by omega, by go_num, below_drewN hbr'.out _⟩
      case measure => simp [intOf]; omega
    · go_wp2
      go_ret
      exact ⟨rfl, hbr⟩

set_option maxHeartbeats 400000 in
theorem sameInts_none (a1 a2 : Option Addr) (c1 c2 : Nat) (w : World) :
    Calls Tryd.prog 14 #[.slice a1 0 c1, .slice a2 0 c2] w fun e w' => e = .returned (.bool true) ∧ w' = w := by
  go_enter Tryd.func14, Tryd.ntmps14
  go_wp2
  go_loop [5] (fun i => i = .int .i64 0) (fun _ => 0)
  case atStart => rfl
  case round =>
    subst hrel
    go_wp2
    go_ret
    exact ⟨rfl, rfl⟩

end Go.Proofs.Qxb6601097aDoor.Rt
