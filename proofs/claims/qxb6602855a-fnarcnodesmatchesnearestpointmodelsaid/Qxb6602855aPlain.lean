/-
  Seat b6602855a: the plain law: the nodes met on a turn round the ring, each once, in the order of their first point. No Go here.
-/
namespace Go.Proofs.Qxb6602855a
namespace Pl

theorem len_le_of_sub : ∀ (l m : List Nat), l.Nodup → (∀ x ∈ l, x ∈ m) → l.length ≤ m.length
  | [], _, _, _ => by simp
  | a :: l, m, h, hs => by
    have ha : a ∈ m := hs a (by simp)
    have hn := List.nodup_cons.1 h
    have h1 := len_le_of_sub l (m.erase a) hn.2 (fun x hx => (List.mem_erase_of_ne (by rintro rfl; exact hn.1 hx)).2 (hs x (by simp [hx])))
    rw [List.length_erase_of_mem ha] at h1
    have h2 : 0 < m.length := List.length_pos_of_mem ha
    simp; omega

/-- The values of f at 0, .., t-1, each once, in the order in which they are first met. -/
def D (f : Nat → Nat) : Nat → List Nat
  | 0 => []
  | t + 1 => if f t ∈ D f t then D f t else D f t ++ [f t]

theorem D_hit {f : Nat → Nat} {t : Nat} (h : f t ∈ D f t) : D f (t + 1) = D f t := by simp [D, h]
theorem D_new {f : Nat → Nat} {t : Nat} (h : ¬ f t ∈ D f t) : D f (t + 1) = D f t ++ [f t] := by simp [D, h]

theorem mem_D (f : Nat → Nat) (u : Nat) : ∀ t, u ∈ D f t ↔ ∃ i, i < t ∧ f i = u
  | 0 => by simp [D]
  | t + 1 => by
    have ih := mem_D f u t
    by_cases h : f t ∈ D f t
    · rw [D_hit h, ih]
      constructor
      · rintro ⟨i, hi, e⟩; exact ⟨i, by omega, e⟩
      · rintro ⟨i, hi, e⟩
        by_cases hit : i = t
        · subst hit; rw [e] at h; exact ih.1 h
        · exact ⟨i, by omega, e⟩
    · rw [D_new h, List.mem_append, ih]
      constructor
      · rintro (⟨i, hi, e⟩ | e)
        · exact ⟨i, by omega, e⟩
        · exact ⟨t, by omega, (List.mem_singleton.1 e).symm⟩
      · rintro ⟨i, hi, e⟩
        by_cases hit : i = t
        · subst hit; exact .inr (by simp [e])
        · exact .inl ⟨i, by omega, e⟩

theorem D_nodup (f : Nat → Nat) : ∀ t, (D f t).Nodup
  | 0 => by simp [D]
  | t + 1 => by
    by_cases h : f t ∈ D f t
    · rw [D_hit h]; exact D_nodup f t
    · rw [D_new h, List.nodup_append]
      refine ⟨D_nodup f t, by simp, ?_⟩
      intro a ha b hb
      simp at hb
      subst hb
      rintro rfl
      exact h ha

theorem D_pre (f : Nat → Nat) (s : Nat) : ∀ k, ∃ r, D f (s + k) = D f s ++ r
  | 0 => ⟨[], by simp⟩
  | k + 1 => by
    obtain ⟨r, hr⟩ := D_pre f s k
    by_cases h : f (s + k) ∈ D f (s + k)
    · exact ⟨r, by rw [← Nat.add_assoc, D_hit h, hr]⟩
    · exact ⟨r ++ [f (s + k)], by rw [← Nat.add_assoc, D_new h, hr]; simp⟩

theorem D_take (f : Nat → Nat) {s t : Nat} (h : s ≤ t) : D f s = (D f t).take (D f s).length := by
  obtain ⟨r, hr⟩ := D_pre f s (t - s)
  rw [show s + (t - s) = t by omega] at hr
  rw [hr]; simp

/-- Where every number below N is met within one turn, and no other, the turn lists N of them. -/
theorem D_full {f : Nat → Nat} {L N : Nat} (h1 : ∀ i, i < L → f i < N) (h2 : ∀ u, u < N → ∃ i, i < L ∧ f i = u) : (D f L).length = N := by
  have a := len_le_of_sub (D f L) (List.range N) (D_nodup f L) (fun x hx => by
    obtain ⟨i, hi, e⟩ := (mem_D f x L).1 hx
    rw [List.mem_range, ← e]; exact h1 i hi)
  have b := len_le_of_sub (List.range N) (D f L) List.nodup_range (fun x hx => (mem_D f x L).2 (h2 x (List.mem_range.1 hx)))
  simp at a b
  omega

/-- One round: still fewer than n, so the turn is not done. -/
theorem D_more {f : Nat → Nat} {L N n t : Nat} (hF : (D f L).length = N) (hn : n ≤ N) (ht : t ≤ L) (hlt : (D f t).length < n) : t < L := by
  rcases Nat.lt_or_ge t L with h | h
  · exact h
  · have : t = L := by omega
    subst this; omega

/-- The end: n are listed: they are the first n of the turn. -/
theorem D_done {f : Nat → Nat} {L n t : Nat} (ht : t ≤ L) (hn : (D f t).length = n) : D f t = (D f L).take n := by
  have := D_take f ht
  rw [hn] at this; exact this

/-! ### the nearest-point model -/

/-- The rank of a node: how many nodes have a nearer first point. 'd u' is the place of u's first point. -/
theorem rank_is {f : Nat → Nat} {L N : Nat} {d : Nat → Nat} (h1 : ∀ i, i < L → f i < N)
    (hd : ∀ u, u < N → d u < L ∧ f (d u) = u ∧ ∀ i, i < d u → f i ≠ u) {u : Nat} (hu : u < N) :
    ((List.range N).filter (fun v => decide (d v < d u))).length = (D f (d u)).length := by
  have n1 : ((List.range N).filter (fun v => decide (d v < d u))).Nodup := List.nodup_range.filter _
  have n2 := D_nodup f (d u)
  have e : ∀ v, v ∈ (List.range N).filter (fun v => decide (d v < d u)) ↔ v ∈ D f (d u) := by
    intro v
    rw [List.mem_filter, List.mem_range, mem_D]
    constructor
    · rintro ⟨hv, h⟩
      exact ⟨d v, by simpa using h, (hd v hv).2.1⟩
    · rintro ⟨i, hi, e⟩
      have hv : v < N := by rw [← e]; exact h1 i (by have := (hd u hu).1; omega)
      refine ⟨hv, ?_⟩
      have := (hd v hv).2.2
      rcases Nat.lt_or_ge i (d v) with h | h
      · exact absurd e (this i h)
      · simp; omega
  have a := len_le_of_sub _ _ n1 (fun x hx => (e x).1 hx)
  have b := len_le_of_sub _ _ n2 (fun x hx => (e x).2 hx)
  omega

/-- The node of rank r is the r-th of the turn. -/
theorem rank_at {f : Nat → Nat} {L N : Nat} {d : Nat → Nat}
    (hd : ∀ u, u < N → d u < L ∧ f (d u) = u ∧ ∀ i, i < d u → f i ≠ u) {u : Nat} (hu : u < N) :
    (D f L)[(D f (d u)).length]? = some u := by
  obtain ⟨hl, hf, hm⟩ := hd u hu
  have hnew : ¬ f (d u) ∈ D f (d u) := by
    rw [hf, mem_D]
    rintro ⟨i, hi, e⟩
    exact hm i hi e
  obtain ⟨r, hr⟩ := D_pre f (d u + 1) (L - (d u + 1))
  rw [show d u + 1 + (L - (d u + 1)) = L by omega, D_new hnew, hf] at hr
  rw [hr]; simp

end Pl
end Go.Proofs.Qxb6602855a
