import Derived.Test.Qxb6602855aBase
namespace Go.Proofs.Qxb6602855a
open Go.RowKit

theorem Try.info9 : (Try.prog.info? 9).map (fun i => (i.zero, i.size, i.bytes)) = some (some (.string ⟨#[]⟩), 1, 16) := by kernel_rfl
theorem Try.info40 : (Try.prog.info? 40).map (fun i => (i.zero, i.size, i.bytes)) = some (some (.int .u64 0), 1, 8) := by kernel_rfl
theorem Try.info39 : (Try.prog.info? 39).map (fun i => (i.zero, i.size, i.bytes)) = some (some (.int .u32 0), 1, 4) := by kernel_rfl
theorem Try.info4 : (Try.prog.info? 4).map (fun i => (i.zero, i.size, i.bytes)) = some (some (.bool false), 1, 1) := by kernel_rfl
theorem Try.info3 : (Try.prog.info? 3).map (fun i => (i.zero, i.size, i.bytes)) = some (some (.int .i64 0), 1, 8) := by kernel_rfl

/-- A row of the call's own: cell j of block g holds 'f j', and may be written. -/
def Own (w : World) (g n : Nat) (f : Nat → Value) : Prop :=
  (∀ j, j < n → w.cell? ⟨g, j, none⟩ = some (f j)) ∧ ∀ j, j < n → w.frozen? ⟨g, j, none⟩ = false

theorem own_of_made {w1 : World} {base e g n cap : Nat} {z : Value} (h : w1.ownsRow base e 1 (.slice (some ⟨g, 0, none⟩) n cap) n (madeCells #[z] n).toList) : Own w1 g n (fun _ => z) :=
  ⟨fun j hj => by rw [h.cellAt j (by omega), toList_madeCells_one]; simp [hj], fun j _ => h.frozenAt j⟩

theorem Own.congr {w : World} {g n : Nat} {f f' : Nat → Value} (h : Own w g n f) (e : ∀ j, j < n → f j = f' j) : Own w g n f' :=
  ⟨fun j hj => by rw [h.1 j hj, e j hj], h.2⟩

theorem Own.set {w : World} {g n : Nat} {f : Nat → Value} (h : Own w g n f) (k : Nat) (v : Value) : Own (w.setCell ⟨g, k, none⟩ v) g n (fun j => if j = k then v else f j) := by
  refine ⟨fun j hj => ?_, fun j hj => ?_⟩
  · by_cases e : j = k
    · subst e; rw [World.cell?_setCell_same _ _ _ (h.1 j hj)]; simp
    · rw [World.cell?_setCell_other _ _ _ _ (by simp only [ne_eq, Addr.mk.injEq]; omega)]; simp only [if_neg e]; exact h.1 j hj
  · rw [World.frozen?_setCell]; exact h.2 j hj

theorem Own.put {w : World} {g n k : Nat} {f : Nat → Value} {z : Value} (h : Own w g n (fun j => if j < k then f j else z)) : Own (w.setCell ⟨g, k, none⟩ (f k)) g n (fun j => if j < k + 1 then f j else z) := by
  refine (h.set k (f k)).congr fun j hj => ?_
  by_cases e : j = k
  · subst e; simp
  · rw [if_neg e]
    by_cases e' : j < k
    · rw [if_pos e', if_pos (by omega)]
    · rw [if_neg e', if_neg (by omega)]

theorem Own.below {w w' : World} {g n : Nat} {f : Nat → Value} (h : Own w g n f) (hb : Below w.heap.size w w') : Own w' g n f :=
  ⟨fun j hj => (hb.cell (p := ⟨g, j, none⟩) (World.block_lt_of_cell? w _ (h.1 j hj))).trans (h.1 j hj), fun j hj => (hb.frozen (p := ⟨g, j, none⟩) (World.block_lt_of_cell? w _ (h.1 j hj))).trans (h.2 j hj)⟩

theorem Own.cells {w : World} {g n : Nat} {f f' : Nat → Value} (h : Own w g n f) (e : ∀ j, j < n → f j = f' j) : Cells w (some ⟨g, 0, none⟩) n f' :=
  fun i hi => ⟨g, 0, rfl, by rw [Nat.zero_add, h.1 i hi, e i hi]⟩

/-- What a copy leaves: a slice of the same length, nil as the other was, with the same elements; nothing that was there has turned. -/
def Copied (w : World) (a : Option Addr) (n : Nat) (f : Nat → Value) (e : Ending) (w' : World) : Prop :=
  ∃ a' c', e = .returned (.slice a' n c') ∧ Cells w' a' n f ∧ a'.isNone = a.isNone ∧ Below w.heap.size w w'

set_option maxHeartbeats 400000 in
theorem copystr_any (w : World) (a : Option Addr) (n c : Nat) (S : Nat → ByteArray) (h0 : Cells w a n fun i => .string (S i)) (hn : a = none → n = 0) (hm : n ≤ 1048576) :
    Calls Try.prog 10 #[.slice a n c] w fun e w' => Copied w a n (fun i => .string (S i)) e w' := by
  obtain ⟨i0, hi, hz0, hz1, hz2⟩ := info_parts Try.info9
  have hq := fun w a n c => Lib.run_eql_slice_nil (P := Try.prog) w 22 9 a n c 0 0 Try.underlying22
  match a, h0, hn with
  | none, h0, hn =>
    have hn0 : n = 0 := hn rfl
    subst hn0
    go_enter Try.func10, Try.ntmps10
    go_wp2
    go_ret
    exact ⟨none, 0, rfl, fun i hi => absurd hi (by omega), rfl, Below.refl _ _⟩
  | some ad, h0, hn =>
    have hby : i0.bytes * n ≤ 281474976710656 := by rw [hz2]; omega
    have hml : n ≤ maxLen := by unfold maxLen; omega
    clear hn
    go_enter Try.func10, Try.ntmps10
    go_wp2_with (at_make; refine wpList_make_full _ rfl _ _ 22 rfl w.heap.size 9 i0 (.string ⟨#[]⟩) 1 Try.underlying22 hi hz0 hz1 _ _ _ _ n rfl rfl rfl rfl hby hml (Nat.le_refl _) ?_)
    intro w1 hown hgrow
    have hO := own_of_made hown
    have hB : Below w.heap.size w w1 := (Below.refl _ _).grown hgrow (Nat.le_refl _) (fun k e => by cases e)
    clear hown hgrow hi hz0 hz1 hz2 hby hml
    go_wp2
    go_loopw [4] (fun i wr => ∃ k : Nat, k ≤ n ∧ i = .int .i64 k ∧ Own wr w.heap.size n (fun j => if j < k then .string (S j) else .string ⟨#[]⟩) ∧ Below w.heap.size w wr) (fun i _ => n - (intOf i).toNat)
    case atStart => exact ⟨0, Nat.zero_le _, rfl, hO.congr fun j _ => by simp, hB⟩
    case round =>
      obtain ⟨k, hk, rfl, hOk, hBk⟩ := hrel
      by_cases hlt : k < n
      · obtain ⟨b, off, had, hc⟩ := h0 k hlt
        simp only [Option.some.injEq] at had
        subst had
        have hck : wr.cell? ⟨b, off + k, none⟩ = some (.string (S k)) := (hBk.cell (p := ⟨b, off + k, none⟩) (World.block_lt_of_cell? w _ hc)).trans hc
        have hd : wr.cell? ⟨w.heap.size, k, none⟩ = some (.string ⟨#[]⟩) := (hOk.1 k hlt).trans (by simp)
        have hf := hOk.2 k hlt
        clear hc
        go_wp2
        go_roundw
        case rel => exact ⟨k + 1, by omega, by go_num, hOk.put (f := fun j => .string (S j)), hBk.setCell (Nat.le_refl _) _⟩
        case measure => simp [intOf]; omega
      · go_wp2
        go_ret
        exact ⟨_, _, rfl, hOk.cells fun j hj => by simp; omega, rfl, hBk⟩

set_option maxHeartbeats 400000 in
theorem copy64_any (w : World) (a : Option Addr) (n c : Nat) (S : Nat → Int) (h0 : Cells w a n fun i => .int .u64 (S i)) (hn : a = none → n = 0) (hm : n ≤ 1048576) :
    Calls Try.prog 11 #[.slice a n c] w fun e w' => Copied w a n (fun i => .int .u64 (S i)) e w' := by
  obtain ⟨i0, hi, hz0, hz1, hz2⟩ := info_parts Try.info40
  have hq := fun w a n c => Lib.run_eql_slice_nil (P := Try.prog) w 23 40 a n c 0 0 Try.underlying23
  match a, h0, hn with
  | none, h0, hn =>
    have hn0 : n = 0 := hn rfl
    subst hn0
    go_enter Try.func11, Try.ntmps11
    go_wp2
    go_ret
    exact ⟨none, 0, rfl, fun i hi => absurd hi (by omega), rfl, Below.refl _ _⟩
  | some ad, h0, hn =>
    have hby : i0.bytes * n ≤ 281474976710656 := by rw [hz2]; omega
    have hml : n ≤ maxLen := by unfold maxLen; omega
    clear hn
    go_enter Try.func11, Try.ntmps11
    go_wp2_with (at_make; refine wpList_make_full _ rfl _ _ 23 rfl w.heap.size 40 i0 (.int .u64 0) 1 Try.underlying23 hi hz0 hz1 _ _ _ _ n rfl rfl rfl rfl hby hml (Nat.le_refl _) ?_)
    intro w1 hown hgrow
    have hO := own_of_made hown
    have hB : Below w.heap.size w w1 := (Below.refl _ _).grown hgrow (Nat.le_refl _) (fun k e => by cases e)
    clear hown hgrow hi hz0 hz1 hz2 hby hml
    go_wp2
    go_loopw [4] (fun i wr => ∃ k : Nat, k ≤ n ∧ i = .int .i64 k ∧ Own wr w.heap.size n (fun j => if j < k then .int .u64 (S j) else .int .u64 0) ∧ Below w.heap.size w wr) (fun i _ => n - (intOf i).toNat)
    case atStart => exact ⟨0, Nat.zero_le _, rfl, hO.congr fun j _ => by simp, hB⟩
    case round =>
      obtain ⟨k, hk, rfl, hOk, hBk⟩ := hrel
      by_cases hlt : k < n
      · obtain ⟨b, off, had, hc⟩ := h0 k hlt
        simp only [Option.some.injEq] at had
        subst had
        have hck : wr.cell? ⟨b, off + k, none⟩ = some (.int .u64 (S k)) := (hBk.cell (p := ⟨b, off + k, none⟩) (World.block_lt_of_cell? w _ hc)).trans hc
        have hd : wr.cell? ⟨w.heap.size, k, none⟩ = some (.int .u64 0) := (hOk.1 k hlt).trans (by simp)
        have hf := hOk.2 k hlt
        clear hc
        go_wp2
        go_roundw
        case rel => exact ⟨k + 1, by omega, by go_num, hOk.put (f := fun j => .int .u64 (S j)), hBk.setCell (Nat.le_refl _) _⟩
        case measure => simp [intOf]; omega
      · go_wp2
        go_ret
        exact ⟨_, _, rfl, hOk.cells fun j hj => by simp; omega, rfl, hBk⟩

set_option maxHeartbeats 400000 in
theorem copy32_any (w : World) (a : Option Addr) (n c : Nat) (S : Nat → Int) (h0 : Cells w a n fun i => .int .u32 (S i)) (hn : a = none → n = 0) (hm : n ≤ 1048576) :
    Calls Try.prog 12 #[.slice a n c] w fun e w' => Copied w a n (fun i => .int .u32 (S i)) e w' := by
  obtain ⟨i0, hi, hz0, hz1, hz2⟩ := info_parts Try.info39
  have hq := fun w a n c => Lib.run_eql_slice_nil (P := Try.prog) w 24 39 a n c 0 0 Try.underlying24
  match a, h0, hn with
  | none, h0, hn =>
    have hn0 : n = 0 := hn rfl
    subst hn0
    go_enter Try.func12, Try.ntmps12
    go_wp2
    go_ret
    exact ⟨none, 0, rfl, fun i hi => absurd hi (by omega), rfl, Below.refl _ _⟩
  | some ad, h0, hn =>
    have hby : i0.bytes * n ≤ 281474976710656 := by rw [hz2]; omega
    have hml : n ≤ maxLen := by unfold maxLen; omega
    clear hn
    go_enter Try.func12, Try.ntmps12
    go_wp2_with (at_make; refine wpList_make_full _ rfl _ _ 24 rfl w.heap.size 39 i0 (.int .u32 0) 1 Try.underlying24 hi hz0 hz1 _ _ _ _ n rfl rfl rfl rfl hby hml (Nat.le_refl _) ?_)
    intro w1 hown hgrow
    have hO := own_of_made hown
    have hB : Below w.heap.size w w1 := (Below.refl _ _).grown hgrow (Nat.le_refl _) (fun k e => by cases e)
    clear hown hgrow hi hz0 hz1 hz2 hby hml
    go_wp2
    go_loopw [4] (fun i wr => ∃ k : Nat, k ≤ n ∧ i = .int .i64 k ∧ Own wr w.heap.size n (fun j => if j < k then .int .u32 (S j) else .int .u32 0) ∧ Below w.heap.size w wr) (fun i _ => n - (intOf i).toNat)
    case atStart => exact ⟨0, Nat.zero_le _, rfl, hO.congr fun j _ => by simp, hB⟩
    case round =>
      obtain ⟨k, hk, rfl, hOk, hBk⟩ := hrel
      by_cases hlt : k < n
      · obtain ⟨b, off, had, hc⟩ := h0 k hlt
        simp only [Option.some.injEq] at had
        subst had
        have hck : wr.cell? ⟨b, off + k, none⟩ = some (.int .u32 (S k)) := (hBk.cell (p := ⟨b, off + k, none⟩) (World.block_lt_of_cell? w _ hc)).trans hc
        have hd : wr.cell? ⟨w.heap.size, k, none⟩ = some (.int .u32 0) := (hOk.1 k hlt).trans (by simp)
        have hf := hOk.2 k hlt
        clear hc
        go_wp2
        go_roundw
        case rel => exact ⟨k + 1, by omega, by go_num, hOk.put (f := fun j => .int .u32 (S j)), hBk.setCell (Nat.le_refl _) _⟩
        case measure => simp [intOf]; omega
      · go_wp2
        go_ret
        exact ⟨_, _, rfl, hOk.cells fun j hj => by simp; omega, rfl, hBk⟩

end Go.Proofs.Qxb6602855a
