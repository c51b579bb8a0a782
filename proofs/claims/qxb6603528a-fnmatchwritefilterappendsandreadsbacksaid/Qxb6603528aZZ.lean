import Derived.Test.Qxb6603528aWrite
namespace Go.Proofs.Qxb6603528a
open Go.RowKit

theorem cellsB_of {w w' : World} {a : Option Addr} {n : Nat} {f : Nat → Value} {b : Nat} (h : Cells w a n f) (hB : Below w.heap.size w w') (hb : w.heap.size ≤ b) : CellsB w' b a n f := by
  intro i hi
  obtain ⟨k, off, rfl, hc⟩ := h i hi
  have hk := World.block_lt_of_cell? w _ hc
  exact ⟨k, off, rfl, Nat.lt_of_lt_of_le hk hb, (hB.cell (p := ⟨k, off + i, none⟩) hk).trans hc⟩

theorem IsMatch.below {w w' : World} {m b : Nat} {op t : ByteArray} {a : Option Addr} {n c : Nat} (h : IsMatch w m op t a n c) (hB : Below b w w') (hm : m < b) : IsMatch w' m op t a n c :=
  ⟨(hB.cell (p := ⟨m, 0, none⟩) hm).trans h.op, (hB.cell (p := ⟨m, 1, none⟩) hm).trans h.chain, (hB.cell (p := ⟨m, 2, none⟩) hm).trans h.text⟩

/-- The two blocks: the Match, the builder. -/
theorem two_blocks {w : World} {op t : ByteArray} {a : Option Addr} {n c : Nat} {S : Nat → ByteArray} (h0 : Cells w a n fun i => .string (S i)) (cs : Array Value) (T : TypeId)
    (e0 : cs[0]? = some (.string op)) (e1 : cs[1]? = some (.slice a n c)) (e2 : cs[2]? = some (.string t)) :
    IsMatch ((w.alloc (.cells cs T)).alloc (.cells #[.pointer none, .slice none 0 0] 39)) w.heap.size op t a n c ∧ IsB ((w.alloc (.cells cs T)).alloc (.cells #[.pointer none, .slice none 0 0] 39)) (w.heap.size + 1) [] ∧
      (CellsB ((w.alloc (.cells cs T)).alloc (.cells #[.pointer none, .slice none 0 0] 39)) (w.heap.size + 1) a n fun i => .string (S i)) ∧ Below w.heap.size w ((w.alloc (.cells cs T)).alloc (.cells #[.pointer none, .slice none 0 0] 39)) := by
  have hB : Below w.heap.size w ((w.alloc (.cells cs T)).alloc (.cells #[.pointer none, .slice none 0 0] 39)) := ((Below.refl _ _).alloc (Nat.le_refl _) _).alloc (by simp) _
  refine ⟨⟨?_, ?_, ?_⟩, ?_, cellsB_of h0 hB (by omega), hB⟩
  · rw [World.cell?_alloc_past _ _ _ (by simp), World.cell?_alloc_at _ _ _ _ rfl]; exact e0
  · rw [World.cell?_alloc_past _ _ _ (by simp), World.cell?_alloc_at _ _ _ _ rfl]; exact e1
  · rw [World.cell?_alloc_past _ _ _ (by simp), World.cell?_alloc_at _ _ _ _ rfl]; exact e2
  · have := Lib.fresh_isBuilder 39 5 (w.alloc (.cells cs T))
    rw [World.size_alloc] at this
    exact this

set_option maxHeartbeats 800000 in
theorem zzfilter_any (w : World) (op t q : ByteArray) (x y z : Int) (a : Option Addr) (n c : Nat) (S : Nat → ByteArray) (h0 : Cells w a n fun i => .string (S i)) (hn : n ≤ 65536) (ht : t.size ≤ 1048576)
    (hl : op.size + (Pl.joinN S n).length ≤ 100000000) :
    Calls Try.prog 8 #[.string op, .slice a n c, .string t, .string q, .int .i64 x, .int .i64 y, .int .i64 z] w fun e w' => e = .returned (.string ⟨(Pl.text op.data.toList S n t.data.toList).toArray⟩) ∧ Below w.heap.size w w' := by
  obtain ⟨hM, hI, hC, hB⟩ := two_blocks (op := op) (t := t) (c := c) h0 #[.string op, .slice a n c, .string t, .string q, .int .i64 x, .int .i64 y, .int .i64 z] 36 rfl rfl rfl
  have HF := Hid.mk (filter_any _ _ _ [] op t a n c S hM hC hn ht hI (by simp; omega))
  have HB := Hid.mk hB
  have hlt := hI.lt
  clear hM hI hC hB h0
  go_enter Try.func8, Try.ntmps8
  go_wp2_with fail
  refine HF.out.mono ?_
  rintro e w1 ⟨rfl, hW1⟩
  have hW1i := hW1.1
  have hB1 := HB.out.trans (hW1.2.mono (by omega))
  clear hW1
  go_wp2_with fail
  refine (Try.Builder_String_any _ _ _ _ hW1i (Nat.le_of_lt hW1i.lt)).mono ?_
  rintro e w2 ⟨rfl, hB2⟩
  go_wp2_with fail
  go_ret
  exact ⟨rfl, hB1.trans (hB2.mono (by omega))⟩

set_option maxHeartbeats 800000 in
theorem zzafter_any (w : World) (p op t : ByteArray) (a : Option Addr) (n c : Nat) (S : Nat → ByteArray) (h0 : Cells w a n fun i => .string (S i)) (hn : n ≤ 65536) (ht : t.size ≤ 1048576)
    (hl : p.size + op.size + (Pl.joinN S n).length ≤ 100000000) :
    Calls Try.prog 11 #[.string p, .string op, .slice a n c, .string t] w fun e w' => e = .returned (.string ⟨(p.data.toList ++ Pl.text op.data.toList S n t.data.toList).toArray⟩) ∧ Below w.heap.size w w' := by
  obtain ⟨hM, hI, hC, hB⟩ := two_blocks (op := op) (t := t) (c := c) h0 #[.string op, .slice a n c, .string t, .string ⟨#[]⟩, .int .i64 0, .int .i64 0, .int .i64 0] 36 rfl rfl rfl
  have HF := Hid.mk (wstr_any _ _ [] p hI (by simp; omega))
  have HB := Hid.mk hB
  have HM := Hid.mk hM
  have HC := Hid.mk hC
  have hlt := hI.lt
  clear hM hI hC hB h0
  go_enter Try.func11, Try.ntmps11
  go_wp2_with fail
  refine HF.out.mono ?_
  rintro e w1 ⟨rfl, hW1⟩
  have hW1i := hW1.1
  have hB1 := HB.out.trans (hW1.2.mono (by omega))
  have HF2 := Hid.mk (filter_any w1 w.heap.size _ _ op t a n c S (HM.out.below hW1.2 (by omega)) (HC.out.below hW1.2) hn ht hW1i (by simp; omega))
  clear hW1 hW1i
  go_wp2_with fail
  refine HF2.out.mono ?_
  rintro e w2 ⟨rfl, hW2⟩
  have hW2i := hW2.1
  have hB2 := hB1.trans (hW2.2.mono (by omega))
  clear hW2
  go_wp2_with fail
  refine (Try.Builder_String_any _ _ _ _ hW2i (Nat.le_of_lt hW2i.lt)).mono ?_
  rintro e w3 ⟨rfl, hB3⟩
  go_wp2_with fail
  go_ret
  exact ⟨rfl, hB2.trans (hB3.mono (by omega))⟩

end Go.Proofs.Qxb6603528a
