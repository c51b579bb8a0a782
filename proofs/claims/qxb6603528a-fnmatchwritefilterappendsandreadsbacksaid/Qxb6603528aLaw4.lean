import Derived.Test.Qxb6603528aLaw3
import Derived.Test.Qxb6603528aBack
namespace Go.Proofs.Qxb6603528a
open Go.RowKit

set_option maxHeartbeats 1000000 in
theorem joinlen_any (w : World) (a : Option Addr) (n c : Nat) (S : Nat → ByteArray) (h0 : Cells w a n fun i => .string (S i)) (hn : n ≤ 65536) (hs : (Pl.joinN S n).length ≤ 100000000) :
    Calls Try.prog 12 #[.slice a n c] w fun e w' => e = .returned (.int .i64 ((Pl.joinN S n).length : Nat)) ∧ w' = w := by
  go_enter Try.func12, Try.ntmps12
  go_wp2
  go_loop [3, 4] (fun t i => ∃ k : Nat, k ≤ n ∧ i = .int .i64 k ∧ t = .int .i64 ((Pl.joinN S k).length : Nat)) (fun _ i => n - (intOf i).toNat)
  case atStart => exact ⟨0, Nat.zero_le _, rfl, rfl⟩
  case round =>
    obtain ⟨k, hk, rfl, rfl⟩ := hrel
    by_cases hlt : k < n
    · obtain ⟨b, off, had, hck0⟩ := h0 k hlt
      subst had
      have hck : w.cell? ⟨b, off + k, none⟩ = some (.string (S k)) := hck0
      clear hck0
      have hlk := Pl.joinN_le S (k + 1) (n - (k + 1))
      rw [show k + 1 + (n - (k + 1)) = n by omega] at hlk
      have esz : (S k).data.toList.length = (S k).size := Array.length_toList
      have HJ : Hid ((Pl.joinN S (k + 1)).length = (Pl.joinN S k).length + ((if 0 < k then 1 else 0) + (S k).size)) := by
        show _ = _
        simp only [Pl.joinN, List.length_append, esz]
        split <;> rfl
      have hle : (Pl.joinN S k).length + 1 + (S k).size ≤ 100000001 := by
        have := HJ.out
        split at this <;> omega
      clear hlk esz
      generalize (Pl.joinN S k).length = jk at *
      by_cases hk0 : 0 < k
      · go_wp2
        go_round
        case rel => exact ⟨k + 1, by omega, by go_num, by rw [HJ.out, if_pos hk0]; exact congrArg (Value.int .i64) (by omega)⟩
        case measure => simp [intOf]; omega
      · go_wp2
        go_round
        case rel => exact ⟨k + 1, by omega, by go_num, by rw [HJ.out, if_neg hk0]; exact congrArg (Value.int .i64) (by omega)⟩
        case measure => simp [intOf]; omega
    · go_wp2
      go_ret
      have e : k = n := by omega
      subst e
      exact ⟨rfl, rfl⟩

theorem byte_at {R : ByteArray} {k : Nat} {c : UInt8} (h : R.data.toList[k]? = some c) : ∃ hk : k < R.size, R[k] = c := by
  have hk : k < R.data.toList.length := by
    rcases Nat.lt_or_ge k R.data.toList.length with g | g
    · exact g
    · rw [List.getElem?_eq_none g] at h; cases h
  refine ⟨by simpa using hk, ?_⟩
  rw [List.getElem?_eq_getElem hk] at h
  simp only [Option.some.injEq] at h
  rw [← h]
  rfl

theorem size_of (l : List UInt8) : (⟨l.toArray⟩ : ByteArray).size = l.length := by
  show l.toArray.size = l.length
  simp

/-- What the walk wants of 'got': the bytes that stood before, and what follows them. -/
theorem got_parts (p tx : List UInt8) (P : ByteArray) (hP : P.data.toList = p) :
    ∃ R : ByteArray, R.data.toList = tx ∧ R.size = tx.length ∧ (⟨(p ++ tx).toArray⟩ : ByteArray).size = P.size + R.size ∧ ((⟨(p ++ tx).toArray⟩ : ByteArray).extract 0 P.size).toList = P.toList ∧ (⟨(p ++ tx).toArray⟩ : ByteArray).extract P.size (⟨(p ++ tx).toArray⟩ : ByteArray).size = R := by
  have hs : P.size = p.length := by rw [← hP, Array.length_toList]; rfl
  refine ⟨⟨tx.toArray⟩, by simp, size_of tx, by rw [size_of (p ++ tx), size_of tx, hs, List.length_append], ?_, ?_⟩
  · rw [Lib.extract_toList, Lib.toList_data, hP, hs]; simp
  · rw [Lib.extract_eq, size_of, hs]; simp

/-- The bytes read back, from the last to the first. -/
theorem rev_view {w : World} {base : Nat} {v : Value} {t : ByteArray} (h : OwnB w base v (t.data.toList.drop 0).reverse) :
    ∃ ao cap, v = .slice ao t.size cap ∧ ∀ k (hk : k < t.size), ∃ g, ao = some ⟨g, 0, none⟩ ∧ w.cell? ⟨g, t.size - 1 - k, none⟩ = some (.int .u8 (t[k].toNat : Int)) := by
  have htl : t.data.toList.length = t.size := Array.length_toList
  unfold OwnB at h
  rw [List.drop_zero, List.length_reverse, htl] at h
  rcases h.2 with ⟨hv, h0⟩ | ⟨g, cap, cur, hv, _⟩
  · exact ⟨none, 0, by rw [hv, h0], fun k hk => by omega⟩
  · refine ⟨some ⟨g, 0, none⟩, cap, hv, fun k hk => ⟨g, rfl, ?_⟩⟩
    have hcell := World.ownsRow.cellAt (hv ▸ h) (t.size - 1 - k) (by omega)
    rw [hcell]
    have e : t.data.toList.reverse[t.size - 1 - k]? = some t[k] := by
      rw [List.getElem?_reverse (by omega), htl, show t.size - 1 - (t.size - 1 - k) = k by omega, List.getElem?_eq_getElem (by omega)]
      rfl
    simp only [Lib.byteCells, List.getElem?_map, e, Option.map_some]

set_option maxRecDepth 100000 in
set_option maxHeartbeats 4000000 in
theorem law4_any (w : World) (p op t : ByteArray) (a : Option Addr) (n c : Nat) (S : Nat → ByteArray) (h0 : Cells w a n fun i => .string (S i)) (he : a = none → n = 0) :
    Calls Try.prog 4 #[.string p, .string op, .slice a n c, .string t] w fun e w' => e = .returned (.bool true) ∧ Below w.heap.size w w' := by
  have H0 := Hid.mk h0
  clear h0
  go_enter Try.func4, Try.ntmps4
  go_wp2_with fail
  refine (bytes10_any _ _ _ _ _ _ _ S H0.out).mono ?_
  rintro e w' ⟨⟨b, rfl⟩, hw⟩
  have hw := hw.symm
  subst hw
  cases b with
  | false =>
    go_wp2_with fail
    go_ret
    exact ⟨rfl, Below.refl _ _⟩
  | true =>
    by_cases hq : 1048576 < p.size
    · go_wp2_with fail
      go_ret
      exact ⟨rfl, Below.refl _ _⟩
    by_cases ho : 1048576 < op.size
    · go_wp2_with fail
      go_ret
      exact ⟨rfl, Below.refl _ _⟩
    by_cases ht : 1048576 < t.size
    · go_wp2_with fail
      go_ret
      exact ⟨rfl, Below.refl _ _⟩
    by_cases hn : 65536 < n
    · go_wp2_with fail
      go_ret
      exact ⟨rfl, Below.refl _ _⟩
    go_wp2_with fail
    refine (chainbytes_any _ a n c S H0.out (by omega)).mono ?_
    rintro e w' ⟨⟨r, rfl, hr0, hr1, hr2⟩, hw⟩
    have hw := hw.symm
    subst hw
    by_cases hs : (1048576 : Int) < p.size + op.size + t.size + r
    · go_wp2_with fail
      go_ret
      exact ⟨rfl, Below.refl _ _⟩
    have hr3 := hr2 (by omega)
    have hjs := joinN_sizes S n
    clear hr2
    go_wp2_with fail
    refine (clone_any _ a n c S H0.out he (by omega)).mono ?_
    rintro e w1 ⟨a1, c1, rfl, hC1, _, hB1⟩
    go_wp2_with fail
    refine (zzafter_any _ p op t a1 n c1 S hC1 (by omega) (by omega) (by omega)).mono ?_
    rintro e w2 ⟨rfl, hB2⟩
    have hC2 := hC1.below hB2
    have hB := hB1.trans (hB2.mono hB1.size)
    clear hC1 hB1 hB2
    obtain ⟨R, hR, hRs, hgs, hgp, hgr⟩ := got_parts p.data.toList (Pl.text op.data.toList S n t.data.toList) p rfl
    rw [Pl.text_length, Pl.hd_length] at hRs
    have hol : op.data.toList.length = op.size := Array.length_toList
    have htl : t.data.toList.length = t.size := Array.length_toList
    have hdl := Pl.dbl_length t.data.toList
    rw [htl] at hdl
    rw [hol] at hRs
    have ht1 := (Pl.text_tail op.data.toList S n t.data.toList).1
    have ht2 := (Pl.text_tail op.data.toList S n t.data.toList).2
    rw [Pl.hd_length, hol, ← hR] at ht1 ht2
    rw [show op.size + (Pl.joinN S n).length + 3 + (Pl.dbl t.data.toList).length + 1 = R.size - 1 by omega] at ht2
    rw [show op.size + (Pl.joinN S n).length + 3 + (Pl.dbl t.data.toList).length = R.size - 2 by omega] at ht1
    obtain ⟨hk1, e41⟩ := byte_at ht2
    obtain ⟨hk2, e39⟩ := byte_at ht1
    have hR5 : 5 ≤ R.size := by omega
    have hRb : R.size ≤ 10000000 := by omega
    have HR := Hid.mk hR
    have HRs := Hid.mk hRs
    generalize hG : (⟨(p.data.toList ++ Pl.text op.data.toList S n t.data.toList).toArray⟩ : ByteArray) = G at *
    rw [hgs] at hgr
    clear hR hG hol htl ht1 ht2 hRs hdl
    have hgp' : ((G.extract 0 p.size).toList == p.toList) = true := by rw [hgp]; simp
    clear hgp
    have hO := OwnB.nil w2 w2.heap.size
    go_wp2_with fail
    clear hgs hgr e41 e39 hk1 hk2 hgp' hr0 hr1 hr3 hs he
    go_loopg [12, 13, 14] t.size (fun j v o i wr => ∃ I : Nat, j ≤ t.size ∧ i = .int .i64 I ∧ o = .int .i64 (-1) ∧ I + 1 = op.size + (Pl.joinN S n).length + 3 + (Pl.dbl (t.data.toList.take j)).length ∧ OwnB wr w2.heap.size v (t.data.toList.drop j).reverse ∧ Below w2.heap.size w2 wr)
    case atStart =>
      have htl : t.data.toList.length = t.size := Array.length_toList
      refine ⟨R.size - 3, Nat.le_refl _, by go_num, rfl, ?_, ?_, Below.refl _ _⟩
      · rw [List.take_of_length_le (by omega)]
        have := HRs.out
        omega
      · rw [List.drop_of_length_le (by omega)]
        exact hO
    case round =>
      obtain ⟨I, hj, rfl, rfl, hI, hOv, hBv⟩ := hrel
      have HI := Hid.mk hI
      clear hO hI
      have htl : t.data.toList.length = t.size := Array.length_toList
      have HT := Hid.mk htl
      have hol : op.data.toList.length = op.size := Array.length_toList
      have HOL := Hid.mk hol
      clear htl hol
      have hbk : w2.heap.size ≤ wr.heap.size := hBv.size
      have HB := Hid.mk hB
      clear hB
      cases gk with
      | zero =>
        have hIe : I = op.size + (Pl.joinN S n).length + 2 := by have := HI.out; simp [Pl.dbl] at this; omega
        have hto := Pl.text_open op.data.toList S n t.data.toList
        have hth := Pl.text_head op.data.toList S n t.data.toList
        rw [HOL.out, ← HR.out] at hto hth
        obtain ⟨hto1, hto2⟩ := hto
        obtain ⟨hth1, hth2⟩ := hth
        rw [show op.size + (Pl.joinN S n).length + 2 = I by omega] at hto1
        rw [show op.size + (Pl.joinN S n).length + 1 = I - 1 by omega] at hto2
        obtain ⟨hkI, e39⟩ := byte_at hto1
        obtain ⟨hkI1, e44⟩ := byte_at hto2
        obtain ⟨hko, e40⟩ := byte_at hth1
        have hIl : I ≤ op.size + (Pl.joinN S n).length + 2 := by omega
        have hIg : op.size + (Pl.joinN S n).length + 2 ≤ I := by omega
        have hI2 : 2 ≤ I := by omega
        have hpre : ((R.extract 0 op.size).toList == op.toList) = true := by
          rw [Lib.extract_toList, Lib.toList_data]
          simp only [List.drop_zero, Nat.sub_zero]
          rw [hth2]; simp
        clear hIe hto1 hto2 hth1 hth2
        have hJL := Hid.mk hjs
        obtain ⟨ao, cap, hv, hcell⟩ := rev_view hOv
        subst hv
        clear hOv
        go_wp2_with fail
        go_loopw [16] (fun i wq => ∃ k : Nat, k ≤ t.size ∧ i = .int .i64 k ∧ Below wr.heap.size wr wq) (fun i _ => t.size - (intOf i).toNat)
        case atStart => exact ⟨0, Nat.zero_le _, rfl, Below.refl _ _⟩
        case round =>
          obtain ⟨k, hk, rfl, hBq⟩ := hrel
          by_cases hlt : k < t.size
          · obtain ⟨g, hg, hc⟩ := hcell k hlt
            subst hg
            have hck := (hBq.cell (p := ⟨g, t.size - 1 - k, none⟩) (World.block_lt_of_cell? _ _ hc)).trans hc
            clear hc hcell e39 e44 e40 hpre
            go_wp2_with fail
            go_region
            go_wp2
            go_roundw
            case rel => exact ⟨k + 1, by omega, by go_num, hBq.drew⟩
            case measure => simp [intOf]; omega
          · clear hcell e39 e44
            go_wp2_with fail
            refine (joinlen_any _ a1 n c1 S ((hC2.below hBv).below hBq) (by omega) (by have := hJL.out; omega)).mono ?_
            rintro e w' ⟨rfl, hw⟩
            have hw := hw.symm
            subst hw
            go_wp2_with fail
            go_ret
            exact ⟨rfl, (HB.out.trans (hBv.mono HB.out.size)).trans (hBq.mono (Nat.le_trans HB.out.size hBv.size))⟩
      | succ j =>
        have hjt : j < t.data.toList.length := by have := HT.out; omega
        have hmid := Pl.text_mid op.data.toList S n hjt
        rw [Pl.hd_length, HOL.out, ← HR.out] at hmid
        have hds := Pl.dbl_take_succ hjt
        have HDS := Hid.mk hds
        have hlen : Hid (((t.data.toList.drop (j + 1)).reverse).length + 1 ≤ 1099511627776) := by show _ ≤ _; simp; omega
        have hdrop : t.data.toList.drop j = t.data.toList[j] :: t.data.toList.drop (j + 1) := List.drop_eq_getElem_cons hjt
        have HDR := Hid.mk hdrop
        clear hds hdrop
        by_cases hq : t.data.toList[j] = 39
        · obtain ⟨hm1, hm2⟩ := hmid.2 hq
          rw [if_pos hq] at HDS
          have hI1 := HI.out
          have hI2 := HDS.out
          rw [show op.size + (Pl.joinN S n).length + 3 + (Pl.dbl (t.data.toList.take j)).length = I - 1 by omega] at hm1 hm2
          rw [show I - 1 + 1 = I by omega] at hm2
          obtain ⟨hkI1, eI1⟩ := byte_at hm1
          obtain ⟨hkI, eI⟩ := byte_at hm2
          have hIb : 2 ≤ I := by omega
          have HQ := Hid.mk hq
          clear hmid hm1 hm2 hI1 hI2 hq
          go_wp2_with (at_builtin; refine wpList_app_byte (.tmp 120) (.tmp 121) rfl rfl w2.heap.size _ _ 39 39 rfl hOv rfl rfl hlen.out hbk ?_)
          intro v2 w3 hO3 hB3
          have hBt := hBv.trans hB3
          clear hOv
          go_wp2_with fail
          go_roundg j
          case measure => omega
          case rel =>
            refine ⟨I - 2, by omega, by go_num, rfl, by have h1 := HI.out; have h2 := HDS.out; omega, ?_, hBt⟩
            rw [HDR.out, HQ.out]
            simpa using hO3
        · have hm1 := hmid.1 hq
          rw [if_neg hq] at HDS
          have hI1 := HI.out
          have hI2 := HDS.out
          rw [show op.size + (Pl.joinN S n).length + 3 + (Pl.dbl (t.data.toList.take j)).length = I by omega] at hm1
          obtain ⟨hkI, eI⟩ := byte_at hm1
          have hne : ((R[I].toNat : Int) != 39) = true := by
            rw [eI]
            simp only [bne_iff_ne, ne_eq]
            intro h
            exact hq (UInt8.toNat_inj.1 (by have h39 : (39 : UInt8).toNat = 39 := rfl; omega))
          have EI := Hid.mk eI
          have hIb : 2 ≤ I := by omega
          clear hmid hm1 hI1 hI2 hq eI
          go_wp2_with (at_builtin; refine wpList_app_byte (.tmp 105) (.tmp 107) rfl rfl w2.heap.size _ _ R[I] _ rfl hOv rfl rfl hlen.out hbk ?_)
          intro v2 w3 hO3 hB3
          have hBt := hBv.trans hB3
          clear hOv
          go_wp2_with fail
          go_roundg j
          case measure => omega
          case rel =>
            refine ⟨I - 1, by omega, by go_num, rfl, by have h1 := HI.out; have h2 := HDS.out; omega, ?_, hBt⟩
            rw [HDR.out, ← EI.out]
            simpa using hO3

end Go.Proofs.Qxb6603528a
