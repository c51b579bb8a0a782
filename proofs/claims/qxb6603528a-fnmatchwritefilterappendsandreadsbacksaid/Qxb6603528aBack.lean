/-
  Seat b6603528a: the plain law of reading a Match's text back from its right end. No Go here.
-/
import Derived.Test.Qxb6603528aPlain
namespace Go.Proofs.Qxb6603528a
namespace Pl
set_option linter.unnecessarySimpa false

/-- All ahead of the literal's own bytes. -/
def hd (op : List UInt8) (S : Nat → ByteArray) (n : Nat) : List UInt8 := op ++ [40] ++ joinN S n ++ [44] ++ [39]

theorem text_eq (op : List UInt8) (S : Nat → ByteArray) (n : Nat) (t : List UInt8) : text op S n t = hd op S n ++ dbl t ++ [39] ++ [41] := rfl

theorem hd_length (op : List UInt8) (S : Nat → ByteArray) (n : Nat) : (hd op S n).length = op.length + (joinN S n).length + 3 := by
  unfold hd; simp; omega

theorem text_length (op : List UInt8) (S : Nat → ByteArray) (n : Nat) (t : List UInt8) : (text op S n t).length = (hd op S n).length + (dbl t).length + 2 := by
  rw [text_eq]; simp; omega

/-- What stands at the place where a list is joined to the next. -/
theorem at_join (a b : List UInt8) (c : UInt8) : (a ++ c :: b)[a.length]? = some c := by simp

theorem text_tail (op : List UInt8) (S : Nat → ByteArray) (n : Nat) (t : List UInt8) :
    (text op S n t)[(hd op S n).length + (dbl t).length]? = some 39 ∧ (text op S n t)[(hd op S n).length + (dbl t).length + 1]? = some 41 := by
  rw [text_eq]
  constructor
  · have := at_join (hd op S n ++ dbl t) [41] 39
    rw [List.length_append] at this
    simpa using this
  · have := at_join (hd op S n ++ dbl t ++ [39]) [] 41
    rw [List.length_append, List.length_append] at this
    simpa using this

theorem text_open (op : List UInt8) (S : Nat → ByteArray) (n : Nat) (t : List UInt8) :
    (text op S n t)[op.length + (joinN S n).length + 2]? = some 39 ∧ (text op S n t)[op.length + (joinN S n).length + 1]? = some 44 := by
  rw [text_eq]
  unfold hd
  constructor
  · have := at_join (op ++ [40] ++ joinN S n ++ [44]) (dbl t ++ [39] ++ [41]) 39
    have e : (op ++ [40] ++ joinN S n ++ [44]).length = op.length + (joinN S n).length + 2 := by simp; omega
    rw [e] at this
    simpa using this
  · have := at_join (op ++ [40] ++ joinN S n) ([39] ++ dbl t ++ [39] ++ [41]) 44
    have e : (op ++ [40] ++ joinN S n).length = op.length + (joinN S n).length + 1 := by simp; omega
    rw [e] at this
    simpa using this

theorem text_head (op : List UInt8) (S : Nat → ByteArray) (n : Nat) (t : List UInt8) : (text op S n t)[op.length]? = some 40 ∧ (text op S n t).take op.length = op := by
  rw [text_eq]
  unfold hd
  constructor
  · have := at_join op (joinN S n ++ [44] ++ [39] ++ dbl t ++ [39] ++ [41]) 40
    simpa using this
  · simp

theorem split_at {t : List UInt8} {j : Nat} (h : j < t.length) : t = t.take j ++ t[j] :: t.drop (j + 1) := by
  rw [List.getElem_cons_drop, List.take_append_drop]

theorem dbl_take_succ {t : List UInt8} {j : Nat} (h : j < t.length) : (dbl (t.take (j + 1))).length = (dbl (t.take j)).length + (if t[j] = 39 then 2 else 1) := by
  rw [List.take_succ_eq_append_getElem h, dbl_append]
  simp only [dbl, List.append_nil, List.length_append]
  split <;> rfl

/-- The bytes of the literal's j-th. -/
theorem text_mid (op : List UInt8) (S : Nat → ByteArray) (n : Nat) {t : List UInt8} {j : Nat} (h : j < t.length) :
    (t[j] ≠ 39 → (text op S n t)[(hd op S n).length + (dbl (t.take j)).length]? = some t[j]) ∧
    (t[j] = 39 → (text op S n t)[(hd op S n).length + (dbl (t.take j)).length]? = some 39 ∧ (text op S n t)[(hd op S n).length + (dbl (t.take j)).length + 1]? = some 39) := by
  have e : dbl t = dbl (t.take j) ++ ((if t[j] = 39 then [39, 39] else [t[j]]) ++ dbl (t.drop (j + 1))) := by
    conv => lhs; rw [split_at h]
    rw [dbl_append]; rfl
  rw [text_eq, e]
  generalize dbl (t.take j) = dj
  generalize dbl (t.drop (j + 1)) = dr
  constructor
  · intro hc
    rw [if_neg hc]
    have := at_join (hd op S n ++ dj) (dr ++ [39] ++ [41]) t[j]
    rw [List.length_append] at this
    simpa using this
  · intro hc
    rw [if_pos hc]
    constructor
    · have := at_join (hd op S n ++ dj) ([39] ++ dr ++ [39] ++ [41]) 39
      rw [List.length_append] at this
      simpa using this
    · have := at_join (hd op S n ++ dj ++ [39]) (dr ++ [39] ++ [41]) 39
      rw [List.length_append, List.length_append] at this
      simpa using this

end Pl
end Go.Proofs.Qxb6603528a
