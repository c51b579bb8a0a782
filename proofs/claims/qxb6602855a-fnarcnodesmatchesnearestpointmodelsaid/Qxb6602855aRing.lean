import Derived.Test.Qxb6602855aWell
namespace Go.Proofs.Qxb6602855a
open Go.RowKit

theorem Try.info44 : (Try.prog.info? 44).map (fun i => (i.zero, i.size, i.bytes)) = some (some (.agg #[.int .u64 0, .int .u32 0, .int .u32 0]), 3, 16) := by kernel_rfl

theorem own_of_row {w1 : World} {base e g n cap size : Nat} {xs : List Value} (h : w1.ownsRow base e size (.slice (some ⟨g, 0, none⟩) n cap) n xs) : ∃ F, Own w1 g (n * size) F := by
  refine ⟨fun j => (xs[j]?).getD (.bool false), fun j hj => ?_, fun j _ => h.frozenAt j⟩
  rw [h.cellAt j hj]
  have hl : j < xs.length := by rw [h.1]; exact hj
  simp [List.getElem?_eq_getElem hl]

/-- A ring in memory: block r holds her three fields, block g her points, three cells each. -/
structure IsRing (w : World) (r g : Nat) (a0 : Option Addr) (N c0 : Nat) (vn : Int) (n : Nat) (P V : Nat → Int) (Z : Nat → Nat) : Prop where
  nodes : w.cell? ⟨r, 0, none⟩ = some (.slice a0 N c0)
  vnodes : w.cell? ⟨r, 1, none⟩ = some (.int .i64 vn)
  points : w.cell? ⟨r, 2, none⟩ = some (.slice (some ⟨g, 0, none⟩) n n)
  at0 : ∀ i, i < n → w.cell? ⟨g, i * 3, none⟩ = some (.int .u64 (P i))
  at1 : ∀ i, i < n → w.cell? ⟨g, i * 3 + 1, none⟩ = some (.int .u32 (Z i : Nat))
  at2 : ∀ i, i < n → w.cell? ⟨g, i * 3 + 2, none⟩ = some (.int .u32 (V i))

theorem IsRing.below {w w' : World} {r g : Nat} {a0 : Option Addr} {N c0 : Nat} {vn : Int} {n : Nat} {P V : Nat → Int} {Z : Nat → Nat} (h : IsRing w r g a0 N c0 vn n P V Z) (hb : Below w.heap.size w w') : IsRing w' r g a0 N c0 vn n P V Z := by
  have k : ∀ {p : Addr} {v : Value}, w.cell? p = some v → w'.cell? p = some v := fun {p v} hc => (hb.cell (World.block_lt_of_cell? w _ hc)).trans hc
  exact ⟨k h.nodes, k h.vnodes, k h.points, fun i hi => k (h.at0 i hi), fun i hi => k (h.at1 i hi), fun i hi => k (h.at2 i hi)⟩

def RingSaid (w : World) (a0 : Option Addr) (N c0 : Nat) (vn : Int) (n : Nat) (Z : Nat → Nat) (e : Ending) (w' : World) : Prop :=
  ∃ r g P V, e = .returned (.pointer (some ⟨r, 0, none⟩)) ∧ IsRing w' r g a0 N c0 vn n P V Z ∧ Below w.heap.size w w'

/-- Three stores of one point. -/
theorem Own.set3 {w : World} {g m : Nat} {F : Nat → Value} (h : Own w g m F) (k : Nat) (x y z : Value) :
    Own (((w.setCell ⟨g, k * 3, none⟩ x).setCell ⟨g, k * 3 + 1, none⟩ y).setCell ⟨g, k * 3 + 2, none⟩ z).drew g m (fun j => if j = k * 3 + 2 then z else if j = k * 3 + 1 then y else if j = k * 3 then x else F j) :=
  ((h.set (k * 3) x).set (k * 3 + 1) y).set (k * 3 + 2) z

set_option maxHeartbeats 800000 in
theorem ring_any (w : World) (a0 a1 a2 a3 : Option Addr) (N c0 n c1 c2 c3 : Nat) (vn : Int) (P V : Nat → Int) (Z : Nat → Nat)
    (h1 : Cells w a1 n fun i => .int .u64 (P i)) (h2 : Cells w a2 n fun i => .int .u32 (Z i : Nat)) (h3 : Cells w a3 n fun i => .int .u32 (V i)) (hm : n ≤ 131072) :
    Calls Try.prog 13 #[.slice a0 N c0, .int .i64 vn, .slice a1 n c1, .slice a2 n c2, .slice a3 n c3] w fun e w' => RingSaid w a0 N c0 vn n Z e w' := by
  obtain ⟨i0, hi, hz0, hz1, hz2⟩ := info_parts Try.info44
  have hby : i0.bytes * n ≤ 281474976710656 := by rw [hz2]; omega
  have hml : n ≤ maxLen := by unfold maxLen; omega
  go_enter Try.func13, Try.ntmps13
  go_wp2_with (at_make; refine wpList_make_full _ rfl _ _ 41 rfl w.heap.size 44 i0 _ 3 Try.underlying41 hi hz0 hz1 _ _ _ _ n rfl rfl rfl rfl hby hml (Nat.le_refl _) ?_)
  intro w1 hown hgrow
  have hB : Below w.heap.size w w1 := (Below.refl _ _).grown hgrow (Nat.le_refl _) (fun k e => by cases e)
  obtain ⟨F, hO⟩ := own_of_row hown
  clear hown hgrow hi hz0 hz1 hz2 hby hml
  go_wp2
  go_loopw [12] (fun i wr => ∃ k : Nat, ∃ F : Nat → Value, k ≤ n ∧ i = .int .i64 k ∧ Own wr w.heap.size (n * 3) F ∧ (∀ i, i < k → F (i * 3) = .int .u64 (P i) ∧ F (i * 3 + 1) = .int .u32 (Z i : Nat) ∧ F (i * 3 + 2) = .int .u32 (V i)) ∧ Below w.heap.size w wr) (fun i _ => n - (intOf i).toNat)
  case atStart => exact ⟨0, F, Nat.zero_le _, rfl, hO, fun i hi => (by omega), hB⟩
  case round =>
    obtain ⟨k, F, hk, rfl, hOk, hF, hBk⟩ := hrel
    have HF : Hid (∀ i, i < k → F (i * 3) = .int .u64 (P i) ∧ F (i * 3 + 1) = .int .u32 (Z i : Nat) ∧ F (i * 3 + 2) = .int .u32 (V i)) := hF
    clear hF
    by_cases hlt : k < n
    · obtain ⟨b1, o1, e1, hc1⟩ := h1 k hlt
      obtain ⟨b2, o2, e2, hc2⟩ := h2 k hlt
      obtain ⟨b3, o3, e3, hc3⟩ := h3 k hlt
      subst e1 e2 e3
      have hk1 : wr.cell? ⟨b1, o1 + k, none⟩ = some (.int .u64 (P k)) := (hBk.cell (p := ⟨b1, o1 + k, none⟩) (World.block_lt_of_cell? w _ hc1)).trans hc1
      have hk2 : wr.cell? ⟨b2, o2 + k, none⟩ = some (.int .u32 (Z k : Nat)) := (hBk.cell (p := ⟨b2, o2 + k, none⟩) (World.block_lt_of_cell? w _ hc2)).trans hc2
      have hk3 : wr.cell? ⟨b3, o3 + k, none⟩ = some (.int .u32 (V k)) := (hBk.cell (p := ⟨b3, o3 + k, none⟩) (World.block_lt_of_cell? w _ hc3)).trans hc3
      have hd0 := hOk.1 (k * 3) (by omega)
      have hd1 := hOk.1 (k * 3 + 1) (by omega)
      have hd2 := hOk.1 (k * 3 + 2) (by omega)
      have hf0 := hOk.2 (k * 3) (by omega)
      have hf1 := hOk.2 (k * 3 + 1) (by omega)
      have hf2 := hOk.2 (k * 3 + 2) (by omega)
      clear hc1 hc2 hc3 h1 h2 h3
      go_wp2
      go_region
      go_wp2
      go_roundw
      case rel =>
        refine ⟨k + 1, _, by omega, by go_num, hOk.set3 k (.int .u64 (P k)) (.int .u32 (Z k : Nat)) (.int .u32 (V k)), ?_, (((hBk.setCell (Nat.le_refl _) _).setCell (Nat.le_refl _) _).setCell (Nat.le_refl _) _).drew⟩
        intro i hi
        by_cases e : i = k
        · subst e
          simp only [if_neg (show ¬ i * 3 = i * 3 + 2 by omega), if_neg (show ¬ i * 3 = i * 3 + 1 by omega), if_neg (show ¬ i * 3 + 1 = i * 3 + 2 by omega), if_true, and_self]
        · have h := HF.out i (by omega)
          simp only [if_neg (show ¬ i * 3 = k * 3 + 2 by omega), if_neg (show ¬ i * 3 = k * 3 + 1 by omega), if_neg (show ¬ i * 3 = k * 3 by omega), if_neg (show ¬ i * 3 + 1 = k * 3 + 2 by omega), if_neg (show ¬ i * 3 + 1 = k * 3 + 1 by omega), if_neg (show ¬ i * 3 + 1 = k * 3 by omega), if_neg (show ¬ i * 3 + 2 = k * 3 + 2 by omega), if_neg (show ¬ i * 3 + 2 = k * 3 + 1 by omega), if_neg (show ¬ i * 3 + 2 = k * 3 by omega)]
          exact h
      case measure => simp [intOf]; omega
    · go_wp2
      go_ret
      have hlw : ∀ j, j < n * 3 → w.heap.size < wr.heap.size := fun j hj => World.block_lt_of_cell? wr _ (hOk.1 j hj)
      refine ⟨wr.heap.size, w.heap.size, P, V, rfl, ⟨by simp, by simp, by simp, fun i hi => ?_, fun i hi => ?_, fun i hi => ?_⟩, hBk.alloc (by have := hBk.size; omega) _⟩
      · rw [World.cell?_alloc_past _ _ _ (hlw (i * 3) (by omega)), hOk.1 (i * 3) (by omega), (HF.out i (by omega)).1]
      · rw [World.cell?_alloc_past _ _ _ (hlw (i * 3) (by omega)), hOk.1 (i * 3 + 1) (by omega), (HF.out i (by omega)).2.1]
      · rw [World.cell?_alloc_past _ _ _ (hlw (i * 3) (by omega)), hOk.1 (i * 3 + 2) (by omega), (HF.out i (by omega)).2.2]

end Go.Proofs.Qxb6602855a
