import Derived.Lib.IndexMore
namespace Go.Proofs.Qxb6601367a.Rl
open Go.Lib

/-- What stands in a credential's place. -/
def mark : List UInt8 := [91, 114, 101, 100, 97, 99, 116, 101, 100, 93]

/-- The first of the values that begins the text. -/
def hit (vs : List (List UInt8)) (t : List UInt8) : Option (List UInt8) := vs.find? (·.isPrefixOf t)

/-- The leftmost scan: at each place the first value that begins there is replaced; fuel: at least one more than the text's length. -/
def scanF (vs : List (List UInt8)) : Nat → List UInt8 → List UInt8
  | 0, t => t
  | f + 1, t =>
    match hit vs t with
    | some v => mark ++ scanF vs f (t.drop v.length)
    | none =>
      match t with
      | [] => []
      | c :: r => c :: scanF vs f r
def scan (vs : List (List UInt8)) (t : List UInt8) : List UInt8 := scanF vs (t.length + 1) t

theorem hit_some {vs : List (List UInt8)} {t v : List UInt8} (h : hit vs t = some v) : v ∈ vs ∧ v.isPrefixOf t = true :=
  ⟨List.mem_of_find?_eq_some h, by simpa using List.find?_some h⟩
theorem prefix_len {v t : List UInt8} (h : v.isPrefixOf t = true) : v.length ≤ t.length := (List.isPrefixOf_iff_prefix.1 h).length_le

theorem scanF_more (vs : List (List UInt8)) (hne : ∀ v ∈ vs, v ≠ []) : ∀ (f g : Nat) (t : List UInt8), t.length < f → t.length < g → scanF vs f t = scanF vs g t
  | 0, _, t, h, _ => by omega
  | _, 0, t, _, h => by omega
  | f + 1, g + 1, t, hf, hg => by
    simp only [scanF]
    cases h : hit vs t with
    | some v =>
      obtain ⟨hm, hp⟩ := hit_some h
      have h1 := prefix_len hp
      have h2 : v.length ≠ 0 := by simpa using hne v hm
      simp only
      rw [scanF_more vs hne f g (t.drop v.length) (by simp; omega) (by simp; omega)]
    | none =>
      cases t with
      | nil => rfl
      | cons c r =>
        simp only [List.length_cons] at hf hg
        simp only
        rw [scanF_more vs hne f g r (by omega) (by omega)]

theorem scan_hit {vs : List (List UInt8)} (hne : ∀ v ∈ vs, v ≠ []) {t v : List UInt8} (h : hit vs t = some v) : scan vs t = mark ++ scan vs (t.drop v.length) := by
  obtain ⟨hm, hp⟩ := hit_some h
  have h1 := prefix_len hp
  have h2 : v.length ≠ 0 := by simpa using hne v hm
  show scanF vs (t.length + 1) t = _
  simp only [scanF, h]
  rw [scanF_more vs hne t.length ((t.drop v.length).length + 1) _ (by simp; omega) (by omega)]
  rfl
theorem scan_cons {vs : List (List UInt8)} {c : UInt8} {r : List UInt8} (h : hit vs (c :: r) = none) : scan vs (c :: r) = c :: scan vs r := by
  show scanF vs ((c :: r).length + 1) (c :: r) = _
  simp only [scanF, h]
  rfl
theorem scan_nil {vs : List (List UInt8)} (hne : ∀ v ∈ vs, v ≠ []) : scan vs [] = [] := by
  have h : hit vs [] = none := by
    cases h : hit vs [] with
    | none => rfl
    | some v =>
      obtain ⟨hm, hp⟩ := hit_some h
      have := prefix_len hp
      exact absurd (List.eq_nil_of_length_eq_zero (by simpa using this)) (hne v hm)
  show scanF vs 1 [] = _
  simp only [scanF, h]
theorem scan_none (t : List UInt8) : scan [] t = t := by
  induction t with
  | nil => rfl
  | cons c r ih => rw [scan_cons rfl, ih]

/-! ### The law -/
theorem prefix_sep {v : List UInt8} {sep : UInt8} (hs : sep ∉ v) : ∀ (a b : List UInt8), v.isPrefixOf (a ++ sep :: b) = v.isPrefixOf a := by
  induction v with
  | nil => intro a b; simp
  | cons c v ih =>
    intro a b
    have h1 : sep ≠ c := fun e => hs (by simp [e])
    have h2 : sep ∉ v := fun e => hs (by simp [e])
    cases a with
    | nil =>
      simp only [List.nil_append, List.isPrefixOf]
      rw [beq_false_of_ne (Ne.symm h1)]; simp
    | cons d a => simp only [List.cons_append, List.isPrefixOf, ih h2]

theorem hit_sep {vs : List (List UInt8)} {sep : UInt8} (hs : ∀ v ∈ vs, sep ∉ v) (a b : List UInt8) : hit vs (a ++ sep :: b) = hit vs a := by
  induction vs with
  | nil => rfl
  | cons v vs ih =>
    have := ih fun u hu => hs u (by simp [hu])
    simp only [hit, List.find?_cons, prefix_sep (hs v (by simp))] at this ⊢
    rw [this]

theorem scan_sep {vs : List (List UInt8)} {sep : UInt8} (hne : ∀ v ∈ vs, v ≠ []) (hs : ∀ v ∈ vs, sep ∉ v) (b : List UInt8) : ∀ (n : Nat) (a : List UInt8), a.length ≤ n → scan vs (a ++ sep :: b) = scan vs a ++ sep :: scan vs b := by
  intro n
  induction n with
  | zero =>
    intro a ha
    obtain rfl : a = [] := List.eq_nil_of_length_eq_zero (by omega)
    have h : hit vs ([] ++ sep :: b) = none := by
      rw [hit_sep hs]
      cases h : hit vs [] with
      | none => rfl
      | some v =>
        obtain ⟨hm, hp⟩ := hit_some h
        have := prefix_len hp
        exact absurd (List.eq_nil_of_length_eq_zero (by simpa using this)) (hne v hm)
    rw [List.nil_append] at h ⊢
    rw [scan_cons h, scan_nil hne, List.nil_append]
  | succ n ih =>
    intro a ha
    cases h : hit vs a with
    | some v =>
      obtain ⟨hm, hp⟩ := hit_some h
      have h1 := prefix_len hp
      have h2 : v.length ≠ 0 := by simpa using hne v hm
      rw [scan_hit hne h, scan_hit hne ((hit_sep hs a b).trans h), List.drop_append_of_le_length h1, ih (a.drop v.length) (by simp; omega)]
      simp
    | none =>
      cases a with
      | nil => exact ih [] (by simp)
      | cons c r =>
        have h' := (hit_sep hs (c :: r) b).trans h
        rw [List.cons_append] at h' ⊢
        rw [scan_cons h, scan_cons h', ih r (by simpa using ha)]
        rfl

end Go.Proofs.Qxb6601367a.Rl
