import Derived.Test.Qxb6602855aModel
import Derived.Test.Qxb6602855aSame
namespace Go.Proofs.Qxb6602855a
open Go.RowKit

set_option maxHeartbeats 4000000 in
theorem law3_any (w : World) (a0 a1 a2 a3 : Option Addr) (N c0 n1 c1 n2 c2 n3 c3 : Nat) (vn arc n : Int) (S : Nat → ByteArray) (P V : Nat → Int) (Z : Nat → Nat) (hC : Came w a0 a1 a2 a3 N n1 n2 n3 S P V Z) :
    Calls Try.prog 3 #[.slice a0 N c0, .int .i64 vn, .slice a1 n1 c1, .slice a2 n2 c2, .slice a3 n3 c3, .int .i64 arc, .int .i64 n] w fun e w' => e = .returned (.bool true) ∧ Below w.heap.size w w' := by
  have H : Hid (Came w a0 a1 a2 a3 N n1 n2 n3 S P V Z) := hC
  clear hC
  go_enter Try.func3, Try.ntmps3
  go_wp2_with fail
  refine (bytes6_any _ _ _ _ _ _ _ _ _ _ _ _ _ _ _ _ S H.out.c0 H.out.s0).mono ?_
  rintro e w' ⟨⟨b, rfl⟩, hw⟩
  have hw := hw.symm
  subst hw
  cases b with
  | false =>
    go_wp2_with fail
    go_ret
    exact ⟨rfl, Below.refl _ _⟩
  | true =>
    by_cases hN : 4096 < N
    · go_wp2_with fail
      go_ret
      exact ⟨rfl, Below.refl _ _⟩
    by_cases hL1 : 131072 < n1
    · go_wp2_with fail
      go_ret
      exact ⟨rfl, Below.refl _ _⟩
    by_cases hL2 : 131072 < n2
    · go_wp2_with fail
      go_ret
      exact ⟨rfl, Below.refl _ _⟩
    by_cases hL3 : 131072 < n3
    · go_wp2_with fail
      go_ret
      exact ⟨rfl, Below.refl _ _⟩
    go_wp2_with fail
    refine (bytesok_any _ _ _ _ _ _ _ _ _ _ _ _ _ S H.out.c0 (by omega) H.out.s0).mono ?_
    rintro e w' ⟨⟨b, rfl⟩, hw⟩
    have hw := hw.symm
    subst hw
    cases b with
    | false =>
      go_wp2_with fail
      go_ret
      exact ⟨rfl, Below.refl _ _⟩
    | true =>
      go_wp2_with fail
      refine (well_any _ _ _ _ _ _ _ _ _ _ _ Z H.out.c2 H.out.z0 (by omega) (by omega)).mono ?_
      rintro e w1 ⟨b, rfl, hW, hB1⟩
      cases b with
      | false =>
        go_wp2_with fail
        go_ret
        exact ⟨rfl, hB1⟩
      | true =>
        have HW := Hid.mk (hW rfl)
        clear hW
        go_wp2_with fail
        refine (rep_any _ _ _).mono ?_
        rintro e w' ⟨rfl, hw⟩
        have hw := hw.symm
        subst hw
        have hrb := rep_le N n
        by_cases hk : 1 ≤ rep N n
        · by_cases hA0 : arc < 0
          · go_wp2_with fail
            go_ret
            exact ⟨rfl, hB1⟩
          by_cases hA1 : arc > 9223372036854775807 - n1
          · go_wp2_with fail
            go_ret
            exact ⟨rfl, hB1⟩
          go_wp2_with fail
          have HAR : Hid (1 ≤ rep N n → 0 ≤ arc ∧ arc + n1 ≤ 9223372036854775807) := fun _ => ⟨by omega, by omega⟩
          refine (copystr_any _ _ _ _ S (H.out.c0.below hB1) H.out.e0 (by omega)).mono ?_
          rintro e w2 ⟨b0, d0, rfl, hK0, hN0, hB2⟩
          go_wp2_with fail
          refine (copy64_any _ _ _ _ P ((H.out.c1.below hB1).below hB2) H.out.e1 (by omega)).mono ?_
          rintro e w3 ⟨b1, d1, rfl, hK1, hN1, hB3⟩
          go_wp2_with fail
          refine (copy32_any _ _ _ _ (fun i => (Z i : Int)) (((H.out.c2.below hB1).below hB2).below hB3) H.out.e2 (by omega)).mono ?_
          rintro e w4 ⟨b2, d2, rfl, hK2, hN2, hB4⟩
          go_wp2_with fail
          refine (copy32_any _ _ _ _ V ((((H.out.c3.below hB1).below hB2).below hB3).below hB4) H.out.e3 (by omega)).mono ?_
          rintro e w5 ⟨b3, d3, rfl, hK3, hN3, hB5⟩
          have e2 := HW.out.l2.symm
          have e3 := HW.out.l3.symm
          subst e2 e3
          clear hN0 hN1 hN2 hN3
          go_wp2_with fail
          refine (ring_any _ b0 b1 b2 b3 N d0 n1 d1 d2 d3 vn P V Z ((hK1.below hB4).below hB5) (hK2.below hB5) hK3 (by omega)).mono ?_
          rintro e w6 ⟨r, g, P', V', rfl, hR, hB6⟩
          have hB16 : Below w.heap.size w w6 := hB1.trans (((((hB2.mono hB1.size).trans (hB3.mono (Nat.le_trans hB1.size hB2.size))).trans (hB4.mono (Nat.le_trans (Nat.le_trans hB1.size hB2.size) hB3.size))).trans (hB5.mono (Nat.le_trans (Nat.le_trans (Nat.le_trans hB1.size hB2.size) hB3.size) hB4.size))).trans (hB6.mono (Nat.le_trans (Nat.le_trans (Nat.le_trans (Nat.le_trans hB1.size hB2.size) hB3.size) hB4.size) hB5.size)))
          have hS6 : Cells w6 b0 N fun i => .string (S i) := (((hK0.below hB3).below hB4).below hB5).below hB6
          have hZ6 : Cells w6 b2 n1 fun i => .int .u32 (Z i : Nat) := (hK2.below hB5).below hB6
          clear hB2 hB3 hB4 hB5 hB6 hK0 hK1 hK2 hK3
          go_wp2_with fail
          refine (arc_u _ r g b0 N d0 vn n1 P' V' Z S hR arc n (by omega) (by omega) hS6 HAR.out HW.out.lt HW.out.all).mono ?_
          rintro e w7 ⟨aa, ca, rfl, hNa, hCa, hB7⟩
          go_wp2_with fail
          refine (model_u _ b0 b2 N d0 n1 d2 S Z arc n (hS6.below hB7) (hZ6.below hB7) (by omega) (by omega) HAR.out HW.out.lt HW.out.all).mono ?_
          rintro e w8 ⟨ab, cb, rfl, hNb, hCb, hB8⟩
          have hB18 : Below w.heap.size w w8 := (hB16.trans (hB7.mono hB16.size)).trans (hB8.mono (Nat.le_trans hB16.size hB7.size))
          have hCa8 := hCa.below hB8
          have hln : (nodesOf Z n1 N arc n).length ≤ N := (nodes_pre Z n1 N arc n n (Int.le_refl n)).2.1
          have HNN := Hid.mk (hNa.trans hNb.symm)
          clear hB16 hB7 hB8 hCa hS6 hZ6 hR hNa hNb
          generalize nodesOf Z n1 N arc n = la at *
          go_wp2_with fail
          refine (same_any _ aa ab la.length ca cb (fun i => S (la.getD i 0)) HNN.out hCa8 hCb (by omega)).mono ?_
          rintro e w9 ⟨rfl, hB9⟩
          go_wp2_with fail
          go_ret
          exact ⟨rfl, hB18.trans (hB9.mono hB18.size)⟩
        · go_wp2_with fail
          have HAR : Hid (1 ≤ rep N n → 0 ≤ arc ∧ arc + n1 ≤ 9223372036854775807) := fun h => absurd h (by omega)
          refine (copystr_any _ _ _ _ S (H.out.c0.below hB1) H.out.e0 (by omega)).mono ?_
          rintro e w2 ⟨b0, d0, rfl, hK0, hN0, hB2⟩
          go_wp2_with fail
          refine (copy64_any _ _ _ _ P ((H.out.c1.below hB1).below hB2) H.out.e1 (by omega)).mono ?_
          rintro e w3 ⟨b1, d1, rfl, hK1, hN1, hB3⟩
          go_wp2_with fail
          refine (copy32_any _ _ _ _ (fun i => (Z i : Int)) (((H.out.c2.below hB1).below hB2).below hB3) H.out.e2 (by omega)).mono ?_
          rintro e w4 ⟨b2, d2, rfl, hK2, hN2, hB4⟩
          go_wp2_with fail
          refine (copy32_any _ _ _ _ V ((((H.out.c3.below hB1).below hB2).below hB3).below hB4) H.out.e3 (by omega)).mono ?_
          rintro e w5 ⟨b3, d3, rfl, hK3, hN3, hB5⟩
          have e2 := HW.out.l2.symm
          have e3 := HW.out.l3.symm
          subst e2 e3
          clear hN0 hN1 hN2 hN3
          go_wp2_with fail
          refine (ring_any _ b0 b1 b2 b3 N d0 n1 d1 d2 d3 vn P V Z ((hK1.below hB4).below hB5) (hK2.below hB5) hK3 (by omega)).mono ?_
          rintro e w6 ⟨r, g, P', V', rfl, hR, hB6⟩
          have hB16 : Below w.heap.size w w6 := hB1.trans (((((hB2.mono hB1.size).trans (hB3.mono (Nat.le_trans hB1.size hB2.size))).trans (hB4.mono (Nat.le_trans (Nat.le_trans hB1.size hB2.size) hB3.size))).trans (hB5.mono (Nat.le_trans (Nat.le_trans (Nat.le_trans hB1.size hB2.size) hB3.size) hB4.size))).trans (hB6.mono (Nat.le_trans (Nat.le_trans (Nat.le_trans (Nat.le_trans hB1.size hB2.size) hB3.size) hB4.size) hB5.size)))
          have hS6 : Cells w6 b0 N fun i => .string (S i) := (((hK0.below hB3).below hB4).below hB5).below hB6
          have hZ6 : Cells w6 b2 n1 fun i => .int .u32 (Z i : Nat) := (hK2.below hB5).below hB6
          clear hB2 hB3 hB4 hB5 hB6 hK0 hK1 hK2 hK3
          go_wp2_with fail
          refine (arc_u _ r g b0 N d0 vn n1 P' V' Z S hR arc n (by omega) (by omega) hS6 HAR.out HW.out.lt HW.out.all).mono ?_
          rintro e w7 ⟨aa, ca, rfl, hNa, hCa, hB7⟩
          go_wp2_with fail
          refine (model_u _ b0 b2 N d0 n1 d2 S Z arc n (hS6.below hB7) (hZ6.below hB7) (by omega) (by omega) HAR.out HW.out.lt HW.out.all).mono ?_
          rintro e w8 ⟨ab, cb, rfl, hNb, hCb, hB8⟩
          have hB18 : Below w.heap.size w w8 := (hB16.trans (hB7.mono hB16.size)).trans (hB8.mono (Nat.le_trans hB16.size hB7.size))
          have hCa8 := hCa.below hB8
          have hln : (nodesOf Z n1 N arc n).length ≤ N := (nodes_pre Z n1 N arc n n (Int.le_refl n)).2.1
          have HNN := Hid.mk (hNa.trans hNb.symm)
          clear hB16 hB7 hB8 hCa hS6 hZ6 hR hNa hNb
          generalize nodesOf Z n1 N arc n = la at *
          go_wp2_with fail
          refine (same_any _ aa ab la.length ca cb (fun i => S (la.getD i 0)) HNN.out hCa8 hCb (by omega)).mono ?_
          rintro e w9 ⟨rfl, hB9⟩
          go_wp2_with fail
          go_ret
          exact ⟨rfl, hB18.trans (hB9.mono hB18.size)⟩

end Go.Proofs.Qxb6602855a
