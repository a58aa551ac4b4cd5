import Derived.Test.Qxb6601097aDoorRtD
import Derived.Test.Qxb6601097aDoorRtPlain
namespace Go.Proofs.Qxb6601097aDoor.Rt
open Go.Lib

/-! ### The text of a shape, read from the left -/
def after (single : Bool) : List Int → List UInt8
  | [] => if single then [44, 41] else [41]
  | z :: r => 44 :: 32 :: (itoa z ++ after single r)
def body : List Int → List UInt8
  | [] => [41]
  | z :: r => itoa z ++ after r.isEmpty r

theorem commaTail_after : ∀ r : List Int, commaTail r ++ [41] = after false r
  | [] => rfl
  | z :: r => by
    have := commaTail_after r
    simp only [commaTail, List.map_cons, List.flatten_cons, after] at this ⊢
    rw [← this]; simp

theorem shapeText_body (l : List Int) : shapeText l = 40 :: body l := by
  match l with
  | [] => rfl
  | [z] => rfl
  | z :: y :: r =>
    rw [shapeText_other _ (by simp), join_nums]
    show 40 :: (itoa z ++ commaTail (y :: r) ++ [41]) = 40 :: (itoa z ++ after false (y :: r))
    rw [List.append_assoc, commaTail_after]

/-- Where the parser stands at a round's start: 'done' is read, 'r' is to come, 'b' is what the last look for a comma said. -/
def At (t : List UInt8) (single : Bool) (done r : List Int) (k : Nat) (b : Bool) : Prop :=
  match r with
  | [] => t.drop k = [41] ∧ (done.length ≠ 1 ∨ b = true)
  | z :: r' => (t.drop k = itoa z ++ after single r' ∧ done = []) ∨ (t.drop k = 32 :: (itoa z ++ after single r') ∧ b = true)

theorem at_start (l : List Int) (b : Bool) : At (shapeText l) (decide (l.length = 1)) [] l 1 b := by
  rw [shapeText_body]
  match l with
  | [] => exact ⟨rfl, .inl (by simp)⟩
  | z :: r =>
    refine .inl ⟨?_, rfl⟩
    have e : r.isEmpty = decide ((z :: r).length = 1) := by cases r <;> simp
    show body (z :: r) = _
    rw [← e]; rfl

theorem getD_of_drop {t s : List UInt8} {k : Nat} (h : t.drop k = s) (j : Nat) : t.getD (k + j) 0 = s.getD j 0 := by
  rw [← h]; simp [List.getD_eq_getElem?_getD, List.getElem?_drop]
theorem length_of_drop {t s : List UInt8} {k : Nat} (h : t.drop k = s) (hs : s ≠ []) : t.length = k + s.length := by
  have : t.length - k = s.length := by rw [← h]; simp
  have h2 : s.length ≠ 0 := by simpa using hs
  omega
theorem drop_add {t s u : List UInt8} {k : Nat} (h : t.drop k = s ++ u) : t.drop (k + s.length) = u := by
  rw [← List.drop_drop, h]; simp

theorem at_end {t : List UInt8} {single b : Bool} {done : List Int} {k : Nat} (h : At t single done [] k b) : t.getD k 0 = 41 ∧ t.length = k + 1 ∧ (done.length ≠ 1 ∨ b = true) := by
  obtain ⟨h1, h2⟩ := h
  exact ⟨by simpa using getD_of_drop h1 0, by simpa using length_of_drop h1 (by simp), h2⟩

structure Step (t : List UInt8) (single : Bool) (done r : List Int) (z : Int) (k m : Nat) (c2 : UInt8) (k' : Nat) : Prop where
  km : k ≤ m
  sp : ∀ j, k ≤ j → j < m → t.getD j 0 = 32
  dig : ∀ j, j < (itoa z).length → t.getD (m + j) 0 = (itoa z).getD j 0
  stop : t.getD (m + (itoa z).length) 0 = c2
  lt : m + (itoa z).length < t.length
  next : (c2 = 44 ∧ k' = m + (itoa z).length + 1 ∧ At t single (done ++ [z]) r k' true) ∨ (c2 = 41 ∧ k' = m + (itoa z).length ∧ At t single (done ++ [z]) r k' false)

theorem step_core {t : List UInt8} {single : Bool} {done r : List Int} {z : Int} {k m : Nat} (hkm : k ≤ m) (hsp : ∀ j, k ≤ j → j < m → t.getD j 0 = 32)
    (hs : single = decide ((done ++ z :: r).length = 1)) (h : t.drop m = itoa z ++ after single r) : ∃ c2 k', Step t single done r z k m c2 k' := by
  have hne : itoa z ++ after single r ≠ [] := by
    cases r with
    | nil => cases single <;> simp [after]
    | cons y r' => simp [after]
  have hlen := length_of_drop h hne
  have hdig : ∀ j, j < (itoa z).length → t.getD (m + j) 0 = (itoa z).getD j 0 := by
    intro j hj
    rw [getD_of_drop h]
    simp [List.getD_eq_getElem?_getD, List.getElem?_append_left hj]
  have hd := drop_add h
  cases r with
  | nil =>
    cases hsg : single with
    | true =>
      rw [hsg] at h hlen hd
      simp only [after, if_true] at h hlen hd
      refine ⟨44, m + (itoa z).length + 1, hkm, hsp, hdig, by simpa using getD_of_drop hd 0, by simp at hlen; omega, .inl ⟨rfl, rfl, ?_, .inr rfl⟩⟩
      rw [← List.drop_drop, hd]; rfl
    | false =>
      rw [hsg] at h hlen hd hs
      simp only [after] at h hlen hd
      refine ⟨41, m + (itoa z).length, hkm, hsp, hdig, by simpa using getD_of_drop hd 0, by simp at hlen; omega, .inr ⟨rfl, rfl, hd, .inl ?_⟩⟩
      have := of_decide_eq_false hs.symm
      simpa using this
  | cons y r' =>
    simp only [after] at h hlen hd
    refine ⟨44, m + (itoa z).length + 1, hkm, hsp, hdig, by simpa using getD_of_drop hd 0, by simp at hlen; omega, .inl ⟨rfl, rfl, .inr ⟨?_, rfl⟩⟩⟩
    rw [← List.drop_drop, hd]; rfl

theorem at_step {t : List UInt8} {single b : Bool} {done r : List Int} {z : Int} {k : Nat} (h : At t single done (z :: r) k b) (hs : single = decide ((done ++ z :: r).length = 1)) :
    (0 < done.length → b = true) ∧ ∃ m c2 k', Step t single done r z k m c2 k' := by
  rcases h with ⟨h, hd⟩ | ⟨h, hb⟩
  · obtain ⟨c2, k', hst⟩ := step_core (Nat.le_refl k) (fun j h1 h2 => by omega) hs h
    exact ⟨fun h0 => by rw [hd] at h0; simp at h0, k, c2, k', hst⟩
  · have h32 : t.getD k 0 = 32 := by simpa using getD_of_drop h 0
    have h' : t.drop (k + 1) = itoa z ++ after single r := by rw [← List.drop_drop, h]; rfl
    obtain ⟨c2, k', hst⟩ := step_core (Nat.le_succ k) (fun j h1 h2 => by rw [show j = k by omega]; exact h32) hs h'
    exact ⟨fun _ => hb, k + 1, c2, k', hst⟩

end Go.Proofs.Qxb6601097aDoor.Rt
