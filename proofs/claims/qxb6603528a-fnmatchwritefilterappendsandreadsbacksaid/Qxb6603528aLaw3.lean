import Derived.Test.Qxb6603528aApp
namespace Go.Proofs.Qxb6603528a
open Go.RowKit

theorem joinN_sizes (S : Nat → ByteArray) : ∀ n, (Pl.joinN S n).length ≤ sizes S n + n
  | 0 => Nat.le_refl _
  | n + 1 => by
    have ih := joinN_sizes S n
    have e : (S n).data.toList.length = (S n).size := Array.length_toList
    simp only [Pl.joinN, sizes, List.length_append, e]
    split <;> simp <;> omega

theorem text_pos (op : List UInt8) (S : Nat → ByteArray) (n : Nat) (t : List UInt8) : 0 < (Pl.text op S n t).length := by
  unfold Pl.text; simp; omega

theorem ownB_conv {w : World} {base : Nat} {v : Value} {l : List UInt8} (h : OwnB w base v l) (hl : 0 < l.length) :
    ∃ g cap, v = .slice (some ⟨g, 0, none⟩) l.length cap ∧ (convert 27 9 v).run Try.prog w = .ok (.string ⟨l.toArray⟩) w := by
  rcases h.2 with ⟨_, h0⟩ | ⟨g, cap, cur, hv, hb, hg, hn, hm, hs, ht⟩
  · omega
  · refine ⟨g, cap, hv, ?_⟩
    rw [hv]
    refine run_convert_bytes_back w 27 9 5 ⟨g, 0, none⟩ cap l Try.underlying27 Try.underlying5 Try.underlying9 fun j hj => ?_
    have hcell := World.ownsRow.cellAt (hv ▸ h) j (by omega)
    have ea : ((⟨g, 0, none⟩ : Addr).add j) = ⟨g, j, none⟩ := by
      simp only [Addr.add]
      by_cases e : j = 0 <;> simp [e]
    rw [ea, hcell]
    simp [Lib.byteCells, List.getElem?_eq_getElem hj]

set_option maxHeartbeats 2000000 in
theorem law3_any (w : World) (op t q : ByteArray) (x y z : Int) (a : Option Addr) (n c : Nat) (S : Nat → ByteArray) (h0 : Cells w a n fun i => .string (S i)) (he : a = none → n = 0) :
    Calls Try.prog 3 #[.string op, .slice a n c, .string t, .string q, .int .i64 x, .int .i64 y, .int .i64 z] w fun e w' => e = .returned (.bool true) ∧ Below w.heap.size w w' := by
  have H0 := Hid.mk h0
  clear h0
  go_enter Try.func3, Try.ntmps3
  go_wp2_with fail
  refine (bytes5_any _ _ _ _ _ _ _ _ _ _ S H0.out).mono ?_
  rintro e w' ⟨⟨b, rfl⟩, hw⟩
  have hw := hw.symm
  subst hw
  cases b with
  | false =>
    go_wp2_with fail
    go_ret
    exact ⟨rfl, Below.refl _ _⟩
  | true =>
    by_cases ho : 1048576 < op.size
    · go_wp2_with fail
      go_ret
      exact ⟨rfl, Below.refl _ _⟩
    by_cases ht : 1048576 < t.size
    · go_wp2_with fail
      go_ret
      exact ⟨rfl, Below.refl _ _⟩
    by_cases hq : 1048576 < q.size
    · go_wp2_with fail
      go_ret
      exact ⟨rfl, Below.refl _ _⟩
    by_cases hn : 65536 < n
    · go_wp2_with fail
      go_ret
      exact ⟨rfl, Below.refl _ _⟩
    go_wp2_with fail
    refine (chainbytes_any _ a n c S H0.out (by omega)).mono ?_
    rintro e w' ⟨⟨r, rfl, hr0, hr1, hr2⟩, hw⟩
    have hw := hw.symm
    subst hw
    by_cases hs : (1048576 : Int) < op.size + t.size + q.size + r
    · go_wp2_with fail
      go_ret
      exact ⟨rfl, Below.refl _ _⟩
    have hr3 := hr2 (by omega)
    have hjs := joinN_sizes S n
    clear hr2
    go_wp2_with fail
    refine (clone_any _ a n c S H0.out he (by omega)).mono ?_
    rintro e w1 ⟨a1, c1, rfl, hC1, _, hB1⟩
    go_wp2_with fail
    refine (zzfilter_any _ op t q x y z a1 n c1 S hC1 (by omega) (by omega) (by omega)).mono ?_
    rintro e w2 ⟨rfl, hB2⟩
    have hC2 := hC1.below hB2
    go_wp2_with fail
    refine (match_any _ op t a1 n c1 S hC2 (by omega) (by omega) (by omega)).mono ?_
    rintro e w3 ⟨v3, rfl, hO3, hB3⟩
    obtain ⟨g, cap, hv, hcv⟩ := ownB_conv hO3 (text_pos _ _ _ _)
    clear hO3 hC1 hC2
    have hB := (hB1.trans (hB2.mono hB1.size)).trans (hB3.mono (Nat.le_trans hB1.size hB2.size))
    clear hB1 hB2 hB3 hv
    generalize Pl.text op.data.toList S n t.data.toList = tx at *
    go_wp2
    go_ret
    exact ⟨by simp, hB⟩

end Go.Proofs.Qxb6603528a
