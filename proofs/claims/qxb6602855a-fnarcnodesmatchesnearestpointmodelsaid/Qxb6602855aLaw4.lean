import Derived.Test.Qxb6602855aArc
namespace Go.Proofs.Qxb6602855a
open Go.RowKit

/-- What came in: the four slices. -/
structure Came (w : World) (a0 a1 a2 a3 : Option Addr) (N n1 n2 n3 : Nat) (S : Nat → ByteArray) (P V : Nat → Int) (Z : Nat → Nat) : Prop where
  c0 : Cells w a0 N fun i => .string (S i)
  c1 : Cells w a1 n1 fun i => .int .u64 (P i)
  c2 : Cells w a2 n2 fun i => .int .u32 (Z i : Nat)
  c3 : Cells w a3 n3 fun i => .int .u32 (V i)
  s0 : ∀ i, (S i).size ≤ maxLen
  z0 : ∀ i, (Z i : Int) ≤ 4294967295
  e0 : a0 = none → N = 0
  e1 : a1 = none → n1 = 0
  e2 : a2 = none → n2 = 0
  e3 : a3 = none → n3 = 0

theorem rep_mono (N : Nat) {lo hi : Int} (h : lo ≤ hi) : rep N lo ≤ rep N hi := by
  unfold rep
  split <;> split <;> (try split) <;> (try split) <;> omega

/-- Fewer asked for: the head of the longer list. -/
theorem nodes_pre (Z : Nat → Nat) (L N : Nat) (arc lo hi : Int) (h : lo ≤ hi) :
    (nodesOf Z L N arc lo).length ≤ (nodesOf Z L N arc hi).length ∧ (nodesOf Z L N arc hi).length ≤ N ∧ ∀ k, k < (nodesOf Z L N arc lo).length → (nodesOf Z L N arc lo).getD k 0 = (nodesOf Z L N arc hi).getD k 0 := by
  have h1 := rep_mono N h
  have h2 := rep_le N hi
  unfold nodesOf
  generalize Pl.D (turn Z L arc.toNat) L = l
  refine ⟨by simp only [List.length_take]; omega, by simp only [List.length_take]; omega, fun k hk => ?_⟩
  simp only [List.length_take] at hk
  simp only [List.getD_eq_getElem?_getD, List.getElem?_take]
  rw [if_pos (by omega), if_pos (by omega)]

set_option maxHeartbeats 4000000 in
theorem law4 (w : World) (a0 a1 a2 a3 : Option Addr) (N c0 n1 c1 n2 c2 n3 c3 : Nat) (vn arc lo hi n m : Int) (S : Nat → ByteArray) (P V : Nat → Int) (Z : Nat → Nat) (hC : Came w a0 a1 a2 a3 N n1 n2 n3 S P V Z)
    (hle : lo ≤ hi) (hnm : (lo = n ∧ hi = m ∧ n ≤ m) ∨ (lo = m ∧ hi = n ∧ m < n)) :
    Calls Try.prog 4 #[.slice a0 N c0, .int .i64 vn, .slice a1 n1 c1, .slice a2 n2 c2, .slice a3 n3 c3, .int .i64 arc, .int .i64 n, .int .i64 m] w fun e w' => e = .returned (.bool true) ∧ Below w.heap.size w w' := by
  have H : Hid (Came w a0 a1 a2 a3 N n1 n2 n3 S P V Z) := hC
  clear hC
  rcases hnm with ⟨rfl, rfl, hnm⟩ | ⟨rfl, rfl, hnm⟩
  all_goals
    go_enter Try.func4, Try.ntmps4
    go_wp2_with fail
    refine (bytes17_any _ _ _ _ _ _ _ _ _ _ _ _ _ _ _ _ _ S H.out.c0 H.out.s0).mono ?_
    rintro e w' ⟨⟨b, rfl⟩, hw⟩
    have hw := hw.symm
    subst hw
    cases b with
    | false =>
      go_wp2_with fail
      go_ret
      exact ⟨rfl, Below.refl _ _⟩
    | true =>
      by_cases hN : 4096 < N
      · go_wp2_with fail
        go_ret
        exact ⟨rfl, Below.refl _ _⟩
      by_cases hL1 : 131072 < n1
      · go_wp2_with fail
        go_ret
        exact ⟨rfl, Below.refl _ _⟩
      by_cases hL2 : 131072 < n2
      · go_wp2_with fail
        go_ret
        exact ⟨rfl, Below.refl _ _⟩
      by_cases hL3 : 131072 < n3
      · go_wp2_with fail
        go_ret
        exact ⟨rfl, Below.refl _ _⟩
      go_wp2_with fail
      refine (bytesok_any _ _ _ _ _ _ _ _ _ _ _ _ _ S H.out.c0 (by omega) H.out.s0).mono ?_
      rintro e w' ⟨⟨b, rfl⟩, hw⟩
      have hw := hw.symm
      subst hw
      cases b with
      | false =>
        go_wp2_with fail
        go_ret
        exact ⟨rfl, Below.refl _ _⟩
      | true =>
        go_wp2_with fail
        refine (well_any _ _ _ _ _ _ _ _ _ _ _ Z H.out.c2 H.out.z0 (by omega) (by omega)).mono ?_
        rintro e w1 ⟨b, rfl, hW, hB1⟩
        cases b with
        | false =>
          go_wp2_with fail
          go_ret
          exact ⟨rfl, hB1⟩
        | true =>
          have HW := Hid.mk (hW rfl)
          clear hW
          go_wp2_with fail
          refine (rep_any _ _ _).mono ?_
          rintro e w' ⟨rfl, hw⟩
          have hw := hw.symm
          subst hw
          have hrb := rep_le N hi
          by_cases hk : 1 ≤ rep N hi
          · by_cases hA0 : arc < 0
            · go_wp2_with fail
              go_ret
              exact ⟨rfl, hB1⟩
            by_cases hA1 : arc > 9223372036854775807 - n1
            · go_wp2_with fail
              go_ret
              exact ⟨rfl, hB1⟩
            go_wp2_with fail
            have HAR : Hid (1 ≤ rep N hi → 0 ≤ arc ∧ arc + n1 ≤ 9223372036854775807) := fun _ => ⟨by omega, by omega⟩
            refine (copystr_any _ _ _ _ S (H.out.c0.below hB1) H.out.e0 (by omega)).mono ?_
            rintro e w2 ⟨b0, d0, rfl, hK0, hN0, hB2⟩
            go_wp2_with fail
            refine (copy64_any _ _ _ _ P ((H.out.c1.below hB1).below hB2) H.out.e1 (by omega)).mono ?_
            rintro e w3 ⟨b1, d1, rfl, hK1, hN1, hB3⟩
            go_wp2_with fail
            refine (copy32_any _ _ _ _ (fun i => (Z i : Int)) (((H.out.c2.below hB1).below hB2).below hB3) H.out.e2 (by omega)).mono ?_
            rintro e w4 ⟨b2, d2, rfl, hK2, hN2, hB4⟩
            go_wp2_with fail
            refine (copy32_any _ _ _ _ V ((((H.out.c3.below hB1).below hB2).below hB3).below hB4) H.out.e3 (by omega)).mono ?_
            rintro e w5 ⟨b3, d3, rfl, hK3, hN3, hB5⟩
            have e2 := HW.out.l2.symm
            have e3 := HW.out.l3.symm
            subst e2 e3
            clear hN0 hN1 hN2 hN3
            go_wp2_with fail
            refine (ring_any _ b0 b1 b2 b3 N d0 n1 d1 d2 d3 vn P V Z ((hK1.below hB4).below hB5) (hK2.below hB5) hK3 (by omega)).mono ?_
            rintro e w6 ⟨r, g, P', V', rfl, hR, hB6⟩
            have hB16 : Below w.heap.size w w6 := hB1.trans (((((hB2.mono hB1.size).trans (hB3.mono (Nat.le_trans hB1.size hB2.size))).trans (hB4.mono (Nat.le_trans (Nat.le_trans hB1.size hB2.size) hB3.size))).trans (hB5.mono (Nat.le_trans (Nat.le_trans (Nat.le_trans hB1.size hB2.size) hB3.size) hB4.size))).trans (hB6.mono (Nat.le_trans (Nat.le_trans (Nat.le_trans (Nat.le_trans hB1.size hB2.size) hB3.size) hB4.size) hB5.size)))
            have hS6 : Cells w6 b0 N fun i => .string (S i) := (((hK0.below hB3).below hB4).below hB5).below hB6
            clear hB2 hB3 hB4 hB5 hB6 hK0 hK1 hK2 hK3
            go_wp2_with fail
            refine (arc_u _ r g b0 N d0 vn n1 P' V' Z S hR arc lo (by omega) (by omega) hS6 (fun h => HAR.out (Int.le_trans h (rep_mono N hle))) HW.out.lt HW.out.all).mono ?_
            rintro e w7 ⟨aa, ca, rfl, hNa, hCa, hB7⟩
            clear hNa
            go_wp2_with fail
            refine (arc_u _ r g b0 N d0 vn n1 P' V' Z S (hR.below hB7) arc hi (by omega) (by omega) (hS6.below hB7) HAR.out HW.out.lt HW.out.all).mono ?_
            rintro e w8 ⟨ab, cb, rfl, hNb, hCb, hB8⟩
            clear hNb
            have hB18 : Below w.heap.size w w8 := (hB16.trans (hB7.mono hB16.size)).trans (hB8.mono (Nat.le_trans hB16.size hB7.size))
            have hCa8 := hCa.below hB8
            obtain ⟨hl, hle2, HE⟩ := nodes_pre Z n1 N arc lo hi hle
            have hHE := Hid.mk HE
            clear HE hB16 hB7 hB8 hCa hS6 hR
            generalize nodesOf Z n1 N arc lo = la at *
            generalize nodesOf Z n1 N arc hi = lb at *
            go_wp2_with fail
            go_loopw [23] (fun i wr => ∃ k : Nat, k ≤ la.length ∧ i = .int .i64 k ∧ Below w8.heap.size w8 wr) (fun i _ => la.length - (intOf i).toNat)
            case atStart => exact ⟨0, Nat.zero_le _, rfl, Below.refl _ _⟩
            case round =>
              obtain ⟨k, hk, rfl, hBk⟩ := hrel
              by_cases hlt : k < la.length
              · obtain ⟨x1, o1, y1, hc1⟩ := hCa8 k hlt
                obtain ⟨x2, o2, y2, hc2⟩ := hCb k (by omega)
                subst y1 y2
                have hk1 : wr.cell? ⟨x1, o1 + k, none⟩ = some (.string (S (lb.getD k 0))) := (hBk.cell (p := ⟨x1, o1 + k, none⟩) (World.block_lt_of_cell? w8 _ hc1)).trans (by rw [hc1]; simp only [hHE.out k hlt])
                have hk2 : wr.cell? ⟨x2, o2 + k, none⟩ = some (.string (S (lb.getD k 0))) := (hBk.cell (p := ⟨x2, o2 + k, none⟩) (World.block_lt_of_cell? w8 _ hc2)).trans hc2
                clear hc1 hc2
                generalize S (lb.getD k 0) = sk at *
                go_wp2
                go_region
                go_wp2
                go_roundw
                case rel => exact ⟨k + 1, by omega, by go_num, hBk.drew⟩
                case measure => simp [intOf]; omega
              · go_wp2
                go_ret
                exact ⟨rfl, hB18.trans (hBk.mono hB18.size)⟩
          · go_wp2_with fail
            have HAR : Hid (1 ≤ rep N hi → 0 ≤ arc ∧ arc + n1 ≤ 9223372036854775807) := fun h => absurd h (by omega)
            refine (copystr_any _ _ _ _ S (H.out.c0.below hB1) H.out.e0 (by omega)).mono ?_
            rintro e w2 ⟨b0, d0, rfl, hK0, hN0, hB2⟩
            go_wp2_with fail
            refine (copy64_any _ _ _ _ P ((H.out.c1.below hB1).below hB2) H.out.e1 (by omega)).mono ?_
            rintro e w3 ⟨b1, d1, rfl, hK1, hN1, hB3⟩
            go_wp2_with fail
            refine (copy32_any _ _ _ _ (fun i => (Z i : Int)) (((H.out.c2.below hB1).below hB2).below hB3) H.out.e2 (by omega)).mono ?_
            rintro e w4 ⟨b2, d2, rfl, hK2, hN2, hB4⟩
            go_wp2_with fail
            refine (copy32_any _ _ _ _ V ((((H.out.c3.below hB1).below hB2).below hB3).below hB4) H.out.e3 (by omega)).mono ?_
            rintro e w5 ⟨b3, d3, rfl, hK3, hN3, hB5⟩
            have e2 := HW.out.l2.symm
            have e3 := HW.out.l3.symm
            subst e2 e3
            clear hN0 hN1 hN2 hN3
            go_wp2_with fail
            refine (ring_any _ b0 b1 b2 b3 N d0 n1 d1 d2 d3 vn P V Z ((hK1.below hB4).below hB5) (hK2.below hB5) hK3 (by omega)).mono ?_
            rintro e w6 ⟨r, g, P', V', rfl, hR, hB6⟩
            have hB16 : Below w.heap.size w w6 := hB1.trans (((((hB2.mono hB1.size).trans (hB3.mono (Nat.le_trans hB1.size hB2.size))).trans (hB4.mono (Nat.le_trans (Nat.le_trans hB1.size hB2.size) hB3.size))).trans (hB5.mono (Nat.le_trans (Nat.le_trans (Nat.le_trans hB1.size hB2.size) hB3.size) hB4.size))).trans (hB6.mono (Nat.le_trans (Nat.le_trans (Nat.le_trans (Nat.le_trans hB1.size hB2.size) hB3.size) hB4.size) hB5.size)))
            have hS6 : Cells w6 b0 N fun i => .string (S i) := (((hK0.below hB3).below hB4).below hB5).below hB6
            clear hB2 hB3 hB4 hB5 hB6 hK0 hK1 hK2 hK3
            go_wp2_with fail
            refine (arc_u _ r g b0 N d0 vn n1 P' V' Z S hR arc lo (by omega) (by omega) hS6 (fun h => HAR.out (Int.le_trans h (rep_mono N hle))) HW.out.lt HW.out.all).mono ?_
            rintro e w7 ⟨aa, ca, rfl, hNa, hCa, hB7⟩
            clear hNa
            go_wp2_with fail
            refine (arc_u _ r g b0 N d0 vn n1 P' V' Z S (hR.below hB7) arc hi (by omega) (by omega) (hS6.below hB7) HAR.out HW.out.lt HW.out.all).mono ?_
            rintro e w8 ⟨ab, cb, rfl, hNb, hCb, hB8⟩
            clear hNb
            have hB18 : Below w.heap.size w w8 := (hB16.trans (hB7.mono hB16.size)).trans (hB8.mono (Nat.le_trans hB16.size hB7.size))
            have hCa8 := hCa.below hB8
            obtain ⟨hl, hle2, HE⟩ := nodes_pre Z n1 N arc lo hi hle
            have hHE := Hid.mk HE
            clear HE hB16 hB7 hB8 hCa hS6 hR
            generalize nodesOf Z n1 N arc lo = la at *
            generalize nodesOf Z n1 N arc hi = lb at *
            go_wp2_with fail
            go_loopw [23] (fun i wr => ∃ k : Nat, k ≤ la.length ∧ i = .int .i64 k ∧ Below w8.heap.size w8 wr) (fun i _ => la.length - (intOf i).toNat)
            case atStart => exact ⟨0, Nat.zero_le _, rfl, Below.refl _ _⟩
            case round =>
              obtain ⟨k, hk, rfl, hBk⟩ := hrel
              by_cases hlt : k < la.length
              · obtain ⟨x1, o1, y1, hc1⟩ := hCa8 k hlt
                obtain ⟨x2, o2, y2, hc2⟩ := hCb k (by omega)
                subst y1 y2
                have hk1 : wr.cell? ⟨x1, o1 + k, none⟩ = some (.string (S (lb.getD k 0))) := (hBk.cell (p := ⟨x1, o1 + k, none⟩) (World.block_lt_of_cell? w8 _ hc1)).trans (by rw [hc1]; simp only [hHE.out k hlt])
                have hk2 : wr.cell? ⟨x2, o2 + k, none⟩ = some (.string (S (lb.getD k 0))) := (hBk.cell (p := ⟨x2, o2 + k, none⟩) (World.block_lt_of_cell? w8 _ hc2)).trans hc2
                clear hc1 hc2
                generalize S (lb.getD k 0) = sk at *
                go_wp2
                go_region
                go_wp2
                go_roundw
                case rel => exact ⟨k + 1, by omega, by go_num, hBk.drew⟩
                case measure => simp [intOf]; omega
              · go_wp2
                go_ret
                exact ⟨rfl, hB18.trans (hBk.mono hB18.size)⟩

theorem law4_any (w : World) (a0 a1 a2 a3 : Option Addr) (N c0 n1 c1 n2 c2 n3 c3 : Nat) (vn arc n m : Int) (S : Nat → ByteArray) (P V : Nat → Int) (Z : Nat → Nat) (hC : Came w a0 a1 a2 a3 N n1 n2 n3 S P V Z) :
    Calls Try.prog 4 #[.slice a0 N c0, .int .i64 vn, .slice a1 n1 c1, .slice a2 n2 c2, .slice a3 n3 c3, .int .i64 arc, .int .i64 n, .int .i64 m] w fun e w' => e = .returned (.bool true) ∧ Below w.heap.size w w' := by
  by_cases h : n ≤ m
  · exact law4 w a0 a1 a2 a3 N c0 n1 c1 n2 c2 n3 c3 vn arc n m n m S P V Z hC h (.inl ⟨rfl, rfl, h⟩)
  · exact law4 w a0 a1 a2 a3 N c0 n1 c1 n2 c2 n3 c3 vn arc m n n m S P V Z hC (by omega) (.inr ⟨rfl, rfl, by omega⟩)

end Go.Proofs.Qxb6602855a
