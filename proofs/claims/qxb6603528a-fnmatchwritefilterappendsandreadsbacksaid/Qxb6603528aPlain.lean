/-
  Seat b6603528a: the plain text of a Match: no Go here.
-/
import Derived.Lib.IndexLaws
namespace Go.Proofs.Qxb6603528a
namespace Pl

/-- Each quote doubled. -/
def dbl : List UInt8 → List UInt8
  | [] => []
  | c :: l => (if c = 39 then [39, 39] else [c]) ++ dbl l

theorem dbl_append (l m : List UInt8) : dbl (l ++ m) = dbl l ++ dbl m := by
  induction l with
  | nil => rfl
  | cons c l ih => simp [dbl, ih]

theorem dbl_plain : ∀ (l : List UInt8), (∀ c ∈ l, c ≠ 39) → dbl l = l
  | [], _ => rfl
  | c :: l, h => by
    have h1 := h c (by simp)
    simp [dbl, h1, dbl_plain l (fun d hd => h d (by simp [hd]))]

theorem dbl_quote : dbl [39] = [39, 39] := rfl

theorem dbl_length (l : List UInt8) : l.length ≤ (dbl l).length ∧ (dbl l).length ≤ 2 * l.length := by
  induction l with
  | nil => simp [dbl]
  | cons c l ih =>
    simp only [dbl, List.length_append, List.length_cons]
    by_cases h : c = 39 <;> simp [h] <;> omega

/-- The names joined by dots. -/
def joinN (S : Nat → ByteArray) : Nat → List UInt8
  | 0 => []
  | n + 1 => joinN S n ++ ((if 0 < n then [46] else []) ++ (S n).data.toList)

theorem joinN_le (S : Nat → ByteArray) (k m : Nat) : (joinN S k).length ≤ (joinN S (k + m)).length := by
  induction m with
  | zero => exact Nat.le_refl _
  | succ m ih => rw [← Nat.add_assoc]; simp only [joinN, List.length_append]; omega

/-- The first quote parts a text. -/
theorem part_at {l : List UInt8} {c : UInt8} {o : Nat} (h : Lib.indexByte l c = o) : o < l.length ∧ l.take o ++ [c] = l.take (o + 1) ∧ ∀ d ∈ l.take o, d ≠ c := by
  obtain ⟨h1, h2⟩ := Lib.indexByte_some h
  have hlt : o < l.length := by
    rcases Nat.lt_or_ge o l.length with g | g
    · exact g
    · rw [List.getElem?_eq_none g] at h1; cases h1
  refine ⟨hlt, ?_, ?_⟩
  · rw [List.take_succ_eq_append_getElem hlt]
    rw [List.getElem?_eq_getElem hlt] at h1
    simp only [Option.some.injEq] at h1
    rw [h1]
  · intro d hd
    obtain ⟨k, hk, e⟩ := List.getElem_of_mem hd
    have hk' : k < o := by simp at hk; omega
    rintro rfl
    refine h2 k hk' ?_
    rw [List.getElem_take] at e
    rw [List.getElem?_eq_getElem (by omega), e]

theorem plain_of {l : List UInt8} {c : UInt8} (h : Lib.indexByte l c = -1) : ∀ d ∈ l, d ≠ c := by
  intro d hd
  obtain ⟨k, hk, e⟩ := List.getElem_of_mem hd
  rintro rfl
  exact Lib.indexByte_none h k (by rw [List.getElem?_eq_getElem hk, e])

/-- One step of the writing of a literal. -/
theorem dbl_step {l : List UInt8} {o : Nat} (h : Lib.indexByte l 39 = o) (done : List UInt8) : dbl (done ++ l.take (o + 1)) = dbl done ++ l.take (o + 1) ++ [39] := by
  obtain ⟨_, h2, h3⟩ := part_at h
  rw [dbl_append, ← h2, dbl_append, dbl_plain _ h3, dbl_quote]
  simp

/-- The whole text of a Match. -/
def text (op : List UInt8) (S : Nat → ByteArray) (n : Nat) (t : List UInt8) : List UInt8 :=
  op ++ [40] ++ joinN S n ++ [44] ++ [39] ++ dbl t ++ [39] ++ [41]

end Pl
end Go.Proofs.Qxb6603528a
