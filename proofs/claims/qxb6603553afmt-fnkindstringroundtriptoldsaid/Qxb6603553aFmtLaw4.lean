import Derived.Test.Qxb6603553aFmtLaw3
namespace Go.Proofs.Qxb6603553aFmt
open Go.RowKit
open Go.Extern.Stop Go.Stop Go.Extern

set_option maxHeartbeats 400000 in
/-- 'Kind.String' of a known kind. -/
theorem string_any (w : World) (nb no nc : Nat) (j : Nat) (T : List UInt8) (hT : Table w nb no nc) (hj : (T = nm0 ∧ j = 0) ∨ (T = nm1 ∧ j = 1) ∨ (T = nm2 ∧ j = 2)) :
    Calls Tryf.prog 10 #[.int .i64 j] w fun e w' => e = .returned (.string ⟨T.toArray⟩) ∧ w' = w := by
  have hv := hT.var
  have c0 := hT.names.c0
  have c1 := hT.names.c1
  have c2 := hT.names.c2
  clear hT
  rcases hj with ⟨rfl, rfl⟩ | ⟨rfl, rfl⟩ | ⟨rfl, rfl⟩
  all_goals
    unfold nm0 nm1 nm2 at *
    go_enter Tryf.func10, Tryf.ntmps10
    go_wp2
    go_ret
    exact ⟨rfl, rfl⟩

/-- '[]byte(s)': a new row of s's bytes. -/
theorem to_bytes (w : World) (l : List UInt8) : ∃ w' cap, (convert 9 22 (.string ⟨l.toArray⟩)).run Tryf.prog w = .ok (.slice (some ⟨w.heap.size, 0, none⟩) l.length cap) w' ∧ Below w.heap.size w w' ∧ BytesAt w' (some ⟨w.heap.size, 0, none⟩) l := by
  have hr := run_bytes_of_string (P := Tryf.prog) w 9 22 5 ⟨l.toArray⟩ Tryf.underlying9 Tryf.underlying22 Tryf.underlying5
  have hsz : (⟨l.toArray⟩ : ByteArray).size = l.length := by show l.toArray.size = _; simp
  rw [hsz] at hr
  refine ⟨_, _, hr, (Below.refl _ _).drew.alloc (Nat.le_refl _) _, fun i hi => ⟨w.heap.size, 0, rfl, ?_⟩⟩
  show (w.drew.alloc _).cell? ⟨w.drew.heap.size, 0 + i, none⟩ = _
  rw [World.cell?_alloc_mark]
  simp [bytesRow, Array.getElem?_append, hi]

set_option maxHeartbeats 2000000 in
theorem law4_any (F : Interp) (w : World) (hF : F.answers w.tape) (nb no nc : Nat) (hT : Table w nb no nc) (k x : Int) (a : Option Addr) (c : Nat) (T : List UInt8) (h0 : BytesAt w a T) (he : a = none → T.length = 0) :
    Calls Tryf.prog 4 #[.int .i64 k, .int .i64 x, .slice a T.length c] w fun e w' => e = .returned (.bool true) ∧ Below w.heap.size w w' := by
  have H0 := Hid.mk h0
  have HT := Hid.mk hT
  clear h0 hT
  go_enter Tryf.func4, Tryf.ntmps4
  go_wp2_with fail
  refine (bytes9_any _ _ _ _ _ _).mono ?_
  rintro e w' ⟨⟨b, rfl⟩, hw⟩
  have hw := hw.symm
  subst hw
  cases b with
  | false =>
    go_wp2_with fail
    go_ret
    exact ⟨rfl, Below.refl _ _⟩
  | true =>
    by_cases hl : (131072 : Int) < T.length
    · go_wp2_with fail
      go_ret
      exact ⟨rfl, Below.refl _ _⟩
    go_wp2_with fail
    refine (clone_any _ a c T H0.out he (by omega)).mono ?_
    rintro e w1 ⟨a1, c1, rfl, hC1, he1, hs1, hB1⟩
    have HC1 := Hid.mk hC1
    have HE1 := Hid.mk he1
    have HS1 := Hid.mk hs1
    clear hC1 he1 hs1
    by_cases hk0 : k < 0
    · obtain ⟨WW, hWW⟩ : ∃ WW : World, WW = w1 := ⟨_, rfl⟩
      subst hWW
      have hBW := hB1
      have HCW := HC1
      clear hB1
      have hBa : Below WW.heap.size WW (WW.alloc (.cells #[.int .i64 x] 27)) := (Below.refl _ _).alloc (Nat.le_refl _) _
      have HTa := Hid.mk ((HT.out.below hBW).below hBa)
      have HCa := Hid.mk (HCW.out.below hBa)
      have hBt := hBW.alloc hBW.size (.cells #[.int .i64 x] 27)
      rcases kind_cases T with ⟨i, hki, hi2, hi⟩ | ⟨hki, n0, n1, n2⟩
      · have HU := Hid.mk (unmarshal_hit (WW.alloc (.cells #[.int .i64 x] 27)) nb no nc WW.heap.size x a1 c1 T i HTa.out (by simp) (by simp) HCa.out HE1.out HS1.out hi)
        have HI := Hid.mk hi
        clear hki hi hBa
        go_wp2_with fail
        refine HU.out.mono ?_
        rintro e w5 ⟨rfl, rfl⟩
        have hBb : Below WW.heap.size WW (WW.alloc (.cells #[.int .i64 (i : Nat)] 27)) := (Below.refl _ _).alloc (Nat.le_refl _) _
        have HTb := Hid.mk ((HT.out.below hBW).below hBb)
        have HCb := Hid.mk (HCW.out.below hBb)
        have hBtb := hBW.alloc hBW.size (.cells #[.int .i64 (i : Nat)] 27)
        have HSt := Hid.mk (string_any _ nb no nc i T HTb.out HI.out)
        clear hBb
        go_wp2_with fail
        refine HSt.out.mono ?_
        rintro e w6 ⟨rfl, hw6⟩
        have hw6 := hw6.symm
        subst hw6
        have htz : (⟨T.toArray⟩ : ByteArray).size ≤ 1048576 := by show T.toArray.size ≤ _; simp; omega
        have HSm := Hid.mk (same_any _ a1 c1 T ⟨T.toArray⟩ HCb.out (by omega) htz)
        clear htz
        go_wp2_with fail
        refine HSm.out.mono ?_
        rintro e w7 ⟨rfl, hB7⟩
        rw [show same T T = true from same_yes rfl]
        go_wp2_with fail
        go_ret
        exact ⟨rfl, hBtb.trans (hB7.mono hBtb.size)⟩
      · have HU := Hid.mk (unmarshal_miss F (WW.alloc (.cells #[.int .i64 x] 27)) (by show F.answers WW.tape; rw [hBW.tape]; exact hF) nb no nc WW.heap.size a1 c1 T HTa.out HCa.out HE1.out HS1.out n0 n1 n2)
        clear hki n0 n1 n2 hBa
        go_wp2_with fail
        refine HU.out.mono ?_
        rintro e w5 ⟨y, rfl, hB5⟩
        go_wp2_with fail
        go_ret
        exact ⟨rfl, hBt.trans (hB5.mono hBt.size)⟩
    by_cases hk2 : 2 < k
    · obtain ⟨WW, hWW⟩ : ∃ WW : World, WW = w1 := ⟨_, rfl⟩
      subst hWW
      have hBW := hB1
      have HCW := HC1
      clear hB1
      have hBa : Below WW.heap.size WW (WW.alloc (.cells #[.int .i64 x] 27)) := (Below.refl _ _).alloc (Nat.le_refl _) _
      have HTa := Hid.mk ((HT.out.below hBW).below hBa)
      have HCa := Hid.mk (HCW.out.below hBa)
      have hBt := hBW.alloc hBW.size (.cells #[.int .i64 x] 27)
      rcases kind_cases T with ⟨i, hki, hi2, hi⟩ | ⟨hki, n0, n1, n2⟩
      · have HU := Hid.mk (unmarshal_hit (WW.alloc (.cells #[.int .i64 x] 27)) nb no nc WW.heap.size x a1 c1 T i HTa.out (by simp) (by simp) HCa.out HE1.out HS1.out hi)
        have HI := Hid.mk hi
        clear hki hi hBa
        go_wp2_with fail
        refine HU.out.mono ?_
        rintro e w5 ⟨rfl, rfl⟩
        have hBb : Below WW.heap.size WW (WW.alloc (.cells #[.int .i64 (i : Nat)] 27)) := (Below.refl _ _).alloc (Nat.le_refl _) _
        have HTb := Hid.mk ((HT.out.below hBW).below hBb)
        have HCb := Hid.mk (HCW.out.below hBb)
        have hBtb := hBW.alloc hBW.size (.cells #[.int .i64 (i : Nat)] 27)
        have HSt := Hid.mk (string_any _ nb no nc i T HTb.out HI.out)
        clear hBb
        go_wp2_with fail
        refine HSt.out.mono ?_
        rintro e w6 ⟨rfl, hw6⟩
        have hw6 := hw6.symm
        subst hw6
        have htz : (⟨T.toArray⟩ : ByteArray).size ≤ 1048576 := by show T.toArray.size ≤ _; simp; omega
        have HSm := Hid.mk (same_any _ a1 c1 T ⟨T.toArray⟩ HCb.out (by omega) htz)
        clear htz
        go_wp2_with fail
        refine HSm.out.mono ?_
        rintro e w7 ⟨rfl, hB7⟩
        rw [show same T T = true from same_yes rfl]
        go_wp2_with fail
        go_ret
        exact ⟨rfl, hBtb.trans (hB7.mono hBtb.size)⟩
      · have HU := Hid.mk (unmarshal_miss F (WW.alloc (.cells #[.int .i64 x] 27)) (by show F.answers WW.tape; rw [hBW.tape]; exact hF) nb no nc WW.heap.size a1 c1 T HTa.out HCa.out HE1.out HS1.out n0 n1 n2)
        clear hki n0 n1 n2 hBa
        go_wp2_with fail
        refine HU.out.mono ?_
        rintro e w5 ⟨y, rfl, hB5⟩
        go_wp2_with fail
        go_ret
        exact ⟨rfl, hBt.trans (hB5.mono hBt.size)⟩
    obtain ⟨j, rfl⟩ := Int.eq_ofNat_of_zero_le (show 0 ≤ k by omega)
    obtain ⟨U, hU⟩ : ∃ U : List UInt8, (U = nm0 ∧ j = 0) ∨ (U = nm1 ∧ j = 1) ∨ (U = nm2 ∧ j = 2) := by
      rcases (show j = 0 ∨ j = 1 ∨ j = 2 by omega) with h | h | h
      · exact ⟨nm0, .inl ⟨rfl, h⟩⟩
      · exact ⟨nm1, .inr (.inl ⟨rfl, h⟩)⟩
      · exact ⟨nm2, .inr (.inr ⟨rfl, h⟩)⟩
    have HUj := Hid.mk hU
    clear hU
    have hBv : Below w1.heap.size w1 (w1.alloc (.cells #[.int .i64 x] 27)) := (Below.refl _ _).alloc (Nat.le_refl _) _
    have HTv := Hid.mk ((HT.out.below hB1).below hBv)
    have HSv := Hid.mk (string_any _ nb no nc j U HTv.out HUj.out)
    obtain ⟨w3, cap, hcv, hB3, hby⟩ := to_bytes (w1.alloc (.cells #[.int .i64 x] 27)) U
    have hk3 : w3.cell? ⟨w1.heap.size, 0, none⟩ = some (.int .i64 x) := (hB3.cell (p := ⟨w1.heap.size, 0, none⟩) (by simp)).trans (by simp)
    have hf3 : w3.frozen? ⟨w1.heap.size, 0, none⟩ = false := (hB3.frozen (p := ⟨w1.heap.size, 0, none⟩) (by simp)).trans (by simp)
    have HUn := Hid.mk (unmarshal_hit w3 nb no nc w1.heap.size x (some ⟨(w1.alloc (.cells #[.int .i64 x] 27)).heap.size, 0, none⟩) cap U j (HTv.out.below hB3) hk3 hf3 hby (fun h => by cases h) (fun y hy => by cases hy; rfl) HUj.out)
    rw [World.size_alloc] at HUn
    have hBw3 : Below w.heap.size w w3 := (hB1.alloc hB1.size _).trans (hB3.mono (Nat.le_trans hB1.size (by simp)))
    have hB13 : Below w1.heap.size w1 w3 := hBv.trans (hB3.mono (by simp))
    have hs3 : w1.heap.size < w3.heap.size := World.block_lt_of_cell? w3 _ hk3
    clear hB3 hby hBv
    go_wp2_with fail
    refine HSv.out.mono ?_
    rintro e w' ⟨rfl, hw⟩
    have hw := hw.symm
    subst hw
    go_wp2_with fail
    refine HUn.out.mono ?_
    rintro e w4 ⟨rfl, hw4⟩
    have hk4 : w4.cell? ⟨w1.heap.size, 0, none⟩ = some (.int .i64 j) := by rw [hw4]; exact World.cell?_setCell_same _ _ _ hk3
    have hB4 : Below w.heap.size w w4 := by rw [hw4]; exact hBw3.setCell hB1.size _
    have HC4 : Hid (BytesAt w4 a1 T) := by
      show BytesAt w4 a1 T
      have hB : Below w1.heap.size w1 w4 := by
        rw [hw4]
        exact hB13.setCell (Nat.le_refl _) _
      exact HC1.out.below hB
    have HT4 := Hid.mk (HT.out.below hB4)
    clear hw4 hk3 hf3 hcv hB13 HT4
    obtain ⟨WW, hWW⟩ : ∃ WW : World, WW = w4 := ⟨_, rfl⟩
    subst hWW
    have hBW := hB4
    have HCW := HC4
    clear hB4
    have hBa : Below WW.heap.size WW (WW.alloc (.cells #[.int .i64 x] 27)) := (Below.refl _ _).alloc (Nat.le_refl _) _
    have HTa := Hid.mk ((HT.out.below hBW).below hBa)
    have HCa := Hid.mk (HCW.out.below hBa)
    have hBt := hBW.alloc hBW.size (.cells #[.int .i64 x] 27)
    rcases kind_cases T with ⟨i, hki, hi2, hi⟩ | ⟨hki, n0, n1, n2⟩
    · have HU := Hid.mk (unmarshal_hit (WW.alloc (.cells #[.int .i64 x] 27)) nb no nc WW.heap.size x a1 c1 T i HTa.out (by simp) (by simp) HCa.out HE1.out HS1.out hi)
      have HI := Hid.mk hi
      clear hki hi hBa
      go_wp2_with fail
      refine HU.out.mono ?_
      rintro e w5 ⟨rfl, rfl⟩
      have hBb : Below WW.heap.size WW (WW.alloc (.cells #[.int .i64 (i : Nat)] 27)) := (Below.refl _ _).alloc (Nat.le_refl _) _
      have HTb := Hid.mk ((HT.out.below hBW).below hBb)
      have HCb := Hid.mk (HCW.out.below hBb)
      have hBtb := hBW.alloc hBW.size (.cells #[.int .i64 (i : Nat)] 27)
      have HSt := Hid.mk (string_any _ nb no nc i T HTb.out HI.out)
      clear hBb
      go_wp2_with fail
      refine HSt.out.mono ?_
      rintro e w6 ⟨rfl, hw6⟩
      have hw6 := hw6.symm
      subst hw6
      have htz : (⟨T.toArray⟩ : ByteArray).size ≤ 1048576 := by show T.toArray.size ≤ _; simp; omega
      have HSm := Hid.mk (same_any _ a1 c1 T ⟨T.toArray⟩ HCb.out (by omega) htz)
      clear htz
      go_wp2_with fail
      refine HSm.out.mono ?_
      rintro e w7 ⟨rfl, hB7⟩
      rw [show same T T = true from same_yes rfl]
      go_wp2_with fail
      go_ret
      exact ⟨rfl, hBtb.trans (hB7.mono hBtb.size)⟩
    · have HU := Hid.mk (unmarshal_miss F (WW.alloc (.cells #[.int .i64 x] 27)) (by show F.answers WW.tape; rw [hBW.tape]; exact hF) nb no nc WW.heap.size a1 c1 T HTa.out HCa.out HE1.out HS1.out n0 n1 n2)
      clear hki n0 n1 n2 hBa
      go_wp2_with fail
      refine HU.out.mono ?_
      rintro e w5 ⟨y, rfl, hB5⟩
      go_wp2_with fail
      go_ret
      exact ⟨rfl, hBt.trans (hB5.mono hBt.size)⟩

end Go.Proofs.Qxb6603553aFmt
