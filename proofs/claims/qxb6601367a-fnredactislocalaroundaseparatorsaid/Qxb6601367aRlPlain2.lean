import Derived.Test.Qxb6601367aRlPlain
namespace Go.Proofs.Qxb6601367a.Rl
open Go.Lib

theorem hit_none {vs : List (List UInt8)} {t : List UInt8} (h : ∀ v ∈ vs, v.isPrefixOf t = false) : hit vs t = none := by
  simp only [hit, List.find?_eq_none]
  intro v hv
  rw [h v hv]; simp

theorem hit_at : ∀ (vs : List (List UInt8)) (t : List UInt8) (j0 : Nat), j0 < vs.length → (vs.getD j0 []).isPrefixOf t = true → (∀ j, j < j0 → (vs.getD j []).isPrefixOf t = false) → hit vs t = some (vs.getD j0 [])
  | [], t, j0, h, _, _ => by simp at h
  | v :: vs, t, 0, _, h1, _ => by
    simp only [List.getD_cons_zero] at h1 ⊢
    simp [hit, h1]
  | v :: vs, t, j0 + 1, h, h1, h2 => by
    have h0 := h2 0 (by omega)
    simp only [List.getD_cons_zero, List.getD_cons_succ] at h0 h1 ⊢
    have := hit_at vs t j0 (by simpa using h) h1 (fun j hj => by have := h2 (j + 1) (by omega); simpa using this)
    simp only [hit, List.find?_cons, h0] at this ⊢
    exact this

theorem scan_skip {vs : List (List UInt8)} : ∀ (p : Nat) (t : List UInt8), p ≤ t.length → (∀ q, q < p → hit vs (t.drop q) = none) → scan vs t = t.take p ++ scan vs (t.drop p)
  | 0, t, _, _ => by simp
  | p + 1, [], h, _ => by simp at h
  | p + 1, c :: r, h, hq => by
    have h0 := hq 0 (by omega)
    rw [List.drop_zero] at h0
    rw [scan_cons h0, scan_skip p r (by simpa using h) (fun q hq' => by have := hq (q + 1) (by omega); simpa using this)]
    simp

def NoFrom (t v : List UInt8) (i : Nat) : Prop := ∀ q, i ≤ q → v.isPrefixOf (t.drop q) = false
def FirstFrom (t v : List UInt8) (i p : Nat) : Prop := i ≤ p ∧ v.isPrefixOf (t.drop p) = true ∧ ∀ q, i ≤ q → q < p → v.isPrefixOf (t.drop q) = false
/-- x is where v is found at or behind i, -1 for nowhere. -/
def EX (t v : List UInt8) (i : Nat) (x : Int) : Prop := (x = -1 ∧ NoFrom t v i) ∨ ∃ p : Nat, x = p ∧ FirstFrom t v i p
/-- .. or a place that is passed. -/
def NX (t v : List UInt8) (i : Nat) (x : Int) : Prop := EX t v i x ∨ ∃ p : Nat, x = p ∧ p < i

theorem nx_mono {t v : List UInt8} {i i' : Nat} {x : Int} (h : NX t v i x) (hi : i ≤ i') : NX t v i' x := by
  rcases h with (⟨h1, h2⟩ | ⟨p, h1, h2, h3, h4⟩) | ⟨p, h1, h2⟩
  · exact .inl (.inl ⟨h1, fun q hq => h2 q (by omega)⟩)
  · by_cases hp : p < i'
    · exact .inr ⟨p, h1, hp⟩
    · exact .inl (.inr ⟨p, h1, by omega, h3, fun q hq hqp => h4 q (by omega) hqp⟩)
  · exact .inr ⟨p, h1, by omega⟩
theorem nx_fresh {t v : List UInt8} {i : Nat} {x : Int} (h : NX t v i x) (hx : ¬ (0 ≤ x ∧ x < i)) : EX t v i x := by
  rcases h with h | ⟨p, h1, h2⟩
  · exact h
  · omega
theorem nx_ge {t v : List UInt8} {i : Nat} {x : Int} (h : NX t v i x) : -1 ≤ x := by
  rcases h with (⟨h1, _⟩ | ⟨p, h1, _⟩) | ⟨p, h1, _⟩ <;> omega
theorem occ_room {t v : List UInt8} {p : Nat} (hv : v ≠ []) (h : v.isPrefixOf (t.drop p) = true) : p + v.length ≤ t.length ∧ p < t.length := by
  have h1 := prefix_len h
  have h2 : v.length ≠ 0 := by simpa using hv
  simp at h1
  omega
theorem ex_le {t v : List UInt8} {i : Nat} {x : Int} (hv : v ≠ []) (h : EX t v i x) : x ≤ t.length := by
  rcases h with ⟨h1, _⟩ | ⟨p, h1, _, h3, _⟩
  · omega
  · have := occ_room hv h3; omega
theorem nx_le {t v : List UInt8} {i : Nat} {x : Int} (hv : v ≠ []) (hi : i ≤ t.length) (h : NX t v i x) : x ≤ t.length := by
  rcases h with h | ⟨p, h1, h2⟩
  · exact ex_le hv h
  · omega

theorem ex_index {t v : List UInt8} (hv : v ≠ []) (i : Nat) : (index (t.drop i) v < 0 → EX t v i (-1)) ∧ (0 ≤ index (t.drop i) v → EX t v i (i + index (t.drop i) v)) := by
  rcases index_spec (t.drop i) v with ⟨h1, h2⟩ | ⟨k, h1, h2, h3, h4⟩
  · refine ⟨fun _ => .inl ⟨rfl, fun q hq => ?_⟩, fun h => by omega⟩
    by_cases hq2 : q - i ≤ (t.drop i).length
    · have := h2 (q - i) hq2
      rw [occAt, List.drop_drop, show i + (q - i) = q by omega] at this
      exact this
    · cases hp : v.isPrefixOf (t.drop q) with
      | false => rfl
      | true => have := occ_room hv hp; simp at hq2; omega
  · refine ⟨fun h => by omega, fun _ => .inr ⟨i + k, by omega, by omega, ?_, fun q h5 h6 => ?_⟩⟩
    · rw [occAt, List.drop_drop] at h3; exact h3
    · have := h4 (q - i) (by omega)
      rw [occAt, List.drop_drop, show i + (q - i) = q by omega] at this
      exact this
theorem ex_index0 {t v : List UInt8} (hv : v ≠ []) : EX t v 0 (index t v) := by
  have h := ex_index (t := t) hv 0
  rw [List.drop_zero] at h
  have hg := index_ge t v
  by_cases h0 : index t v < 0
  · rw [show index t v = -1 by omega]; exact h.1 h0
  · have := h.2 (by omega); simpa using this

/-- f is the place on the list of the value that is found first, the first such, among the first k. -/
def Fst (nx : List Int) (k : Nat) (f : Int) : Prop :=
  (f = -1 ∧ ∀ j, j < k → nx.getD j 0 = -1) ∨ ∃ j0 : Nat, f = j0 ∧ j0 < k ∧ 0 ≤ nx.getD j0 0 ∧ ∀ j, j < k → nx.getD j 0 = -1 ∨ (nx.getD j0 0 ≤ nx.getD j 0 ∧ (j < j0 → nx.getD j0 0 < nx.getD j 0))

theorem fst_zero (nx : List Int) : Fst nx 0 (-1) := .inl ⟨rfl, fun j h => by omega⟩
theorem lt_succ_cases {j k : Nat} (h : j < k + 1) : j < k ∨ j = k := by omega
theorem fst_miss {nx : List Int} {k : Nat} {f : Int} (h : Fst nx k f) (hx : nx.getD k 0 = -1) : Fst nx (k + 1) f := by
  rcases h with ⟨h1, h2⟩ | ⟨j0, h1, h2, h3, h4⟩
  · refine .inl ⟨h1, fun j hj => ?_⟩
    rcases lt_succ_cases hj with h | rfl
    · exact h2 j h
    · exact hx
  · refine .inr ⟨j0, h1, by omega, h3, fun j hj => ?_⟩
    rcases lt_succ_cases hj with h | rfl
    · exact h4 j h
    · exact .inl hx
theorem fst_none {nx : List Int} {k : Nat} (h : Fst nx k (-1)) (hx : 0 ≤ nx.getD k 0) : Fst nx (k + 1) k := by
  rcases h with ⟨_, h2⟩ | ⟨j0, h1, _⟩
  · refine .inr ⟨k, rfl, by omega, hx, fun j hj => ?_⟩
    rcases lt_succ_cases hj with h | rfl
    · exact .inl (h2 j h)
    · exact .inr ⟨Int.le_refl _, fun h => by omega⟩
  · omega
theorem fst_less {nx : List Int} {k j0 : Nat} (h : Fst nx k j0) (hx : 0 ≤ nx.getD k 0) (hl : nx.getD k 0 < nx.getD j0 0) : Fst nx (k + 1) k := by
  rcases h with ⟨h1, _⟩ | ⟨j1, h1, h2, h3, h4⟩
  · omega
  · obtain rfl : j0 = j1 := by omega
    refine .inr ⟨k, rfl, by omega, hx, fun j hj => ?_⟩
    rcases lt_succ_cases hj with h | rfl
    · rcases h4 j h with h5 | ⟨h5, _⟩
      · exact .inl h5
      · exact .inr ⟨by omega, fun _ => by omega⟩
    · exact .inr ⟨Int.le_refl _, fun h => by omega⟩
theorem fst_more {nx : List Int} {k j0 : Nat} (h : Fst nx k j0) (hl : ¬ nx.getD k 0 < nx.getD j0 0) : Fst nx (k + 1) j0 := by
  rcases h with ⟨h1, _⟩ | ⟨j1, h1, h2, h3, h4⟩
  · omega
  · obtain rfl : j0 = j1 := by omega
    refine .inr ⟨j0, rfl, by omega, h3, fun j hj => ?_⟩
    rcases lt_succ_cases hj with h | rfl
    · exact h4 j h
    · exact .inr ⟨by omega, fun h => by omega⟩
theorem fst_lt {nx : List Int} {k j0 : Nat} (h : Fst nx k j0) : j0 < k ∧ 0 ≤ nx.getD j0 0 := by
  rcases h with ⟨h1, _⟩ | ⟨j1, h1, h2, h3, h4⟩
  · omega
  · obtain rfl : j0 = j1 := by omega
    exact ⟨h2, h3⟩
theorem fst_form {nx : List Int} {k : Nat} {f : Int} (h : Fst nx k f) : f = -1 ∨ ∃ j0 : Nat, f = j0 ∧ j0 < k := by
  rcases h with ⟨h1, _⟩ | ⟨j1, h1, h2, _⟩
  · exact .inl h1
  · exact .inr ⟨j1, h1, h2⟩

theorem mem_getD {vs : List (List UInt8)} {v : List UInt8} (h : v ∈ vs) : ∃ j, j < vs.length ∧ vs.getD j [] = v := by
  obtain ⟨j, hj, rfl⟩ := List.getElem_of_mem h
  exact ⟨j, hj, by simp [List.getElem?_eq_getElem hj]⟩
theorem getD_mem {vs : List (List UInt8)} {j : Nat} (h : j < vs.length) : vs.getD j [] ∈ vs := by simp [List.getElem?_eq_getElem h]

/-- Nothing is found any more: the rest stays. -/
theorem scan_done {vs : List (List UInt8)} (hne : ∀ v ∈ vs, v ≠ []) {t : List UInt8} {i : Nat} {nx : List Int} (hx : ∀ j, j < vs.length → EX t (vs.getD j []) i (nx.getD j 0)) (hf : Fst nx vs.length (-1)) :
    scan vs (t.drop i) = t.drop i := by
  have h : ∀ q, i ≤ q → hit vs (t.drop q) = none := by
    intro q hq
    refine hit_none fun v hv => ?_
    obtain ⟨j, hj, rfl⟩ := mem_getD hv
    rcases hf with ⟨_, h2⟩ | ⟨j0, h1, _⟩
    · rcases hx j hj with ⟨_, h4⟩ | ⟨p, h3, _⟩
      · exact h4 q hq
      · rw [h2 j hj] at h3; omega
    · omega
  have := scan_skip (vs := vs) (t.drop i).length (t.drop i) (Nat.le_refl _) (fun q _ => by rw [List.drop_drop]; exact h _ (by omega))
  rw [this, List.take_length, List.drop_length, scan_nil hne, List.append_nil]

/-- The first value found: what stands ahead of it, its mark, the rest. -/
theorem scan_step {vs : List (List UInt8)} (hne : ∀ v ∈ vs, v ≠ []) {t : List UInt8} {i j0 : Nat} {nx : List Int} (hx : ∀ j, j < vs.length → EX t (vs.getD j []) i (nx.getD j 0)) (hf : Fst nx vs.length j0) :
    ∃ p : Nat, nx.getD j0 0 = p ∧ i ≤ p ∧ p + (vs.getD j0 []).length ≤ t.length ∧ p < t.length ∧ scan vs (t.drop i) = (t.drop i).take (p - i) ++ (mark ++ scan vs (t.drop (p + (vs.getD j0 []).length))) := by
  rcases hf with ⟨h1, _⟩ | ⟨j1, h1, h2, h3, h4⟩
  · omega
  · obtain rfl : j0 = j1 := by omega
    rcases hx j0 h2 with ⟨h5, _⟩ | ⟨p, h5, h6, h7, h8⟩
    · omega
    · have hr := occ_room (hne _ (getD_mem h2)) h7
      refine ⟨p, h5, h6, hr.1, hr.2, ?_⟩
      have hno : ∀ q, i ≤ q → q < p → hit vs (t.drop q) = none := by
        intro q hq hqp
        refine hit_none fun v hv => ?_
        obtain ⟨j, hj, rfl⟩ := mem_getD hv
        rcases hx j hj with ⟨_, h9⟩ | ⟨p', h9, h10, h11, h12⟩
        · exact h9 q hq
        · rcases h4 j hj with h13 | ⟨h13, _⟩
          · omega
          · exact h12 q hq (by omega)
      have hat : hit vs (t.drop p) = some (vs.getD j0 []) := by
        refine hit_at vs _ j0 h2 h7 fun j hj => ?_
        rcases hx j (by omega) with ⟨_, h9⟩ | ⟨p', h9, h10, h11, h12⟩
        · exact h9 p h6
        · rcases h4 j (by omega) with h13 | ⟨_, h14⟩
          · omega
          · exact h12 p h6 (by have := h14 hj; omega)
      rw [scan_skip (vs := vs) (p - i) (t.drop i) (by simp; omega) (fun q hq => by rw [List.drop_drop]; exact hno _ (by omega) (by omega)), List.drop_drop, show i + (p - i) = p by omega, scan_hit hne hat, List.drop_drop]

end Go.Proofs.Qxb6601367a.Rl
