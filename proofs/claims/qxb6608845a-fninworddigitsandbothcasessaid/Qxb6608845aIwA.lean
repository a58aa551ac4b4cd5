import Derived.Test.Qxb6608845aRows
import Derived.Test.Qxb6608845aShelf
import Derived.WalkKit
import Derived.WalkSpells
import Derived.WalkLawsBesides
import Derived.Deep.LoopGhost
import Derived.Laws.RangeAny
import Derived.Lib.IndexMore
namespace Go.Proofs.Qxb6608845a.Iw
open Go.RowKit

theorem hidden {p : Prop} (h : p) : Hid p := h

set_option maxHeartbeats 400000 in
theorem word_digit (b : Int) (w : World) (h1 : 48 ≤ b) (h2 : b ≤ 57) : Calls Try.prog 4 #[.int .u8 b] w fun e w' => e = .returned (.bool true) ∧ w = w' := by
  go_enter Try.func4, Try.ntmps4
  go_wp2
  go_ret
  exact ⟨rfl, rfl⟩
set_option maxHeartbeats 400000 in
theorem word_upper (b : Int) (w : World) (h1 : 65 ≤ b) (h2 : b ≤ 90) : Calls Try.prog 4 #[.int .u8 b] w fun e w' => e = .returned (.bool true) ∧ w = w' := by
  go_enter Try.func4, Try.ntmps4
  go_wp2
  go_ret
  exact ⟨rfl, rfl⟩
set_option maxHeartbeats 400000 in
theorem word_lower (b : Int) (w : World) (h1 : 97 ≤ b) (h2 : b ≤ 122) : Calls Try.prog 4 #[.int .u8 b] w fun e w' => e = .returned (.bool true) ∧ w = w' := by
  go_enter Try.func4, Try.ntmps4
  go_wp2
  go_ret
  exact ⟨rfl, rfl⟩
set_option maxHeartbeats 400000 in
theorem word_a (b : Int) (w : World) (h2 : b < 48) : Calls Try.prog 4 #[.int .u8 b] w fun e w' => e = .returned (.bool false) ∧ w = w' := by
  go_enter Try.func4, Try.ntmps4
  go_wp2
  go_ret
  exact ⟨rfl, rfl⟩
set_option maxHeartbeats 400000 in
theorem word_b (b : Int) (w : World) (h1 : 57 < b) (h2 : b < 65) : Calls Try.prog 4 #[.int .u8 b] w fun e w' => e = .returned (.bool false) ∧ w = w' := by
  have d57 : decide (b ≤ 57) = false := decide_eq_false (by omega)
  go_enter Try.func4, Try.ntmps4
  go_wp2
  go_ret
  exact ⟨rfl, rfl⟩
set_option maxHeartbeats 400000 in
theorem word_c (b : Int) (w : World) (h1 : 90 < b) (h2 : b < 97) : Calls Try.prog 4 #[.int .u8 b] w fun e w' => e = .returned (.bool false) ∧ w = w' := by
  have d57 : decide (b ≤ 57) = false := decide_eq_false (by omega)
  have d90 : decide (b ≤ 90) = false := decide_eq_false (by omega)
  go_enter Try.func4, Try.ntmps4
  go_wp2
  go_ret
  exact ⟨rfl, rfl⟩
set_option maxHeartbeats 400000 in
theorem word_d (b : Int) (w : World) (h1 : 122 < b) : Calls Try.prog 4 #[.int .u8 b] w fun e w' => e = .returned (.bool false) ∧ w = w' := by
  have d57 : decide (b ≤ 57) = false := decide_eq_false (by omega)
  have d90 : decide (b ≤ 90) = false := decide_eq_false (by omega)
  have d122 : decide (b ≤ 122) = false := decide_eq_false (by omega)
  go_enter Try.func4, Try.ntmps4
  go_wp2
  go_ret
  exact ⟨rfl, rfl⟩

theorem word_no (b : Int) (w : World) (h : b < 48 ∨ (57 < b ∧ b < 65) ∨ (90 < b ∧ b < 97) ∨ 122 < b) : Calls Try.prog 4 #[.int .u8 b] w fun e w' => e = .returned (.bool false) ∧ w = w' := by
  rcases h with h | ⟨h1, h2⟩ | ⟨h1, h2⟩ | h
  · exact word_a b w h
  · exact word_b b w h1 h2
  · exact word_c b w h1 h2
  · exact word_d b w h

set_option maxHeartbeats 400000 in
theorem digits_nil (w : World) : Calls Try.prog 11 #[.string ⟨#[]⟩] w fun e w' => e = .returned (.bool false) ∧ w = w' := by
  go_enter Try.func11, Try.ntmps11
  go_wp2
  go_ret
  exact ⟨rfl, rfl⟩

/-- What 'next' gives at the one byte of a string. -/
theorem next_one (c : UInt8) : ∃ (r : Int) (q : Nat), 1 ≤ q ∧ (48 ≤ c.toNat ∧ c.toNat ≤ 57 → 48 ≤ r ∧ r ≤ 57) ∧ (¬ (48 ≤ c.toNat ∧ c.toNat ≤ 57) → r < 48 ∨ 57 < r) ∧
    ∀ (w : World) (ty : TypeId), (Instr.next (.pointer (some ⟨w.heap.size, 0, none⟩)) true ty).run Try.prog (w.iter ⟨#[c]⟩ 0) = .ok (.tuple #[.bool true, .int .i64 0, .int .i32 r]) (w.iter ⟨#[c]⟩ q) := by
  have hsz : 0 < (⟨#[c]⟩ : ByteArray).size := Nat.zero_lt_one
  have hget : (⟨#[c]⟩ : ByteArray)[0]'hsz = c := rfl
  refine ⟨((Utf8.decode ⟨#[c]⟩ 0).1 : Int), 0 + (Utf8.decode ⟨#[c]⟩ 0).2, ?_, ?_, ?_, fun w ty => run_next_any w ⟨#[c]⟩ 0 ty hsz⟩
  all_goals
    by_cases h : c.toNat < 128
    · have := decode_ascii ⟨#[c]⟩ 0 hsz (by rw [hget]; exact h)
      rw [this, hget]
      simp only
      omega
    · have := decode_high ⟨#[c]⟩ 0 hsz (by rw [hget]; omega)
      omega

theorem size_one (c : UInt8) : (⟨#[c]⟩ : ByteArray).size = 1 := rfl
theorem below_iter (w : World) (s : ByteArray) (q : Nat) : Below w.heap.size w (w.iter s q) := (Below.refl _ _).alloc (Nat.le_refl _) _

set_option maxHeartbeats 400000 in
theorem digits_yes (c : UInt8) (w : World) (hc : 48 ≤ c.toNat ∧ c.toNat ≤ 57) : Calls Try.prog 11 #[.string ⟨#[c]⟩] w fun e w' => e = .returned (.bool true) ∧ Below w.heap.size w w' := by
  obtain ⟨r, q, hq, hr, _, hn⟩ := next_one c
  obtain ⟨h1, h2⟩ := hr hc
  have hend : ∀ ty, (Instr.next (.pointer (some ⟨w.heap.size, 0, none⟩)) true ty).run Try.prog (w.iter ⟨#[c]⟩ q) = .ok (.tuple #[.bool false]) (w.iter ⟨#[c]⟩ q) := fun ty => run_next_end (P := Try.prog) w ⟨#[c]⟩ q ty (by rw [size_one]; omega)
  have hn0 := hn w
  clear hr hn hc
  go_enter Try.func11, Try.ntmps11
  go_wp2
  go_loopg [] 1 (fun n wr => (n = 1 ∧ wr = w.iter ⟨#[c]⟩ 0) ∨ (n = 0 ∧ wr = w.iter ⟨#[c]⟩ q))
  case atStart => exact .inl ⟨rfl, rfl⟩
  case round =>
    rcases hrel with ⟨hg, hw⟩ | ⟨hg, hw⟩
    · subst hw
      go_wp2
      go_roundg 0
      case measure => omega
      case rel => exact .inr ⟨rfl, rfl⟩
    · subst hw
      go_wp2
      go_ret
      exact ⟨rfl, below_iter _ _ _⟩

set_option maxHeartbeats 400000 in
theorem digits_no (c : UInt8) (w : World) (hc : ¬ (48 ≤ c.toNat ∧ c.toNat ≤ 57)) : Calls Try.prog 11 #[.string ⟨#[c]⟩] w fun e w' => e = .returned (.bool false) ∧ Below w.heap.size w w' := by
  obtain ⟨r, q, hq, _, hr, hn⟩ := next_one c
  have h1 := hr hc
  have hn0 := hn w
  clear hr hn hc
  rcases h1 with h1 | h1
  all_goals
    go_enter Try.func11, Try.ntmps11
    go_wp2
    go_loopg [] 1 (fun n wr => n = 1 ∧ wr = w.iter ⟨#[c]⟩ 0)
    case atStart => exact ⟨rfl, rfl⟩
    case round =>
      obtain ⟨hg, hw⟩ := hrel
      subst hw
      go_wp2
      go_ret
      exact ⟨rfl, below_iter _ _ _⟩

end Go.Proofs.Qxb6608845a.Iw
