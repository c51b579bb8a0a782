import Derived.Test.Qxb6603553aFmtParse
namespace Go.Proofs.Qxb6603553aFmt
open Go.RowKit
open Go.Extern.Stop Go.Stop Go.Extern

set_option maxHeartbeats 1000000 in
theorem law3_any (F : Interp) (w : World) (hF : F.answers w.tape) (nb no nc : Nat) (hT : Table w nb no nc) (x : Int) (a : Option Addr) (c : Nat) (T : List UInt8) (h0 : BytesAt w a T) (he : a = none → T.length = 0) :
    Calls Tryf.prog 3 #[.int .i64 x, .slice a T.length c] w fun e w' => e = .returned (.bool true) ∧ Below w.heap.size w w' := by
  have H0 := Hid.mk h0
  have HT := Hid.mk hT
  clear h0 hT
  go_enter Tryf.func3, Tryf.ntmps3
  go_wp2_with fail
  refine (bytes5_any _ _ _ _ _).mono ?_
  rintro e w' ⟨⟨b, rfl⟩, hw⟩
  have hw := hw.symm
  subst hw
  cases b with
  | false =>
    go_wp2_with fail
    go_ret
    exact ⟨rfl, Below.refl _ _⟩
  | true =>
    by_cases hl : (131072 : Int) < T.length
    · go_wp2_with fail
      go_ret
      exact ⟨rfl, Below.refl _ _⟩
    go_wp2_with fail
    refine (clone_any _ a c T H0.out he (by omega)).mono ?_
    rintro e w1 ⟨a1, c1, rfl, hC1, he1, hs1, hB1⟩
    have HC1 := Hid.mk hC1
    have HE1 := Hid.mk he1
    have HS1 := Hid.mk hs1
    clear hC1 he1 hs1
    go_wp2_with fail
    refine (model_any _ a1 c1 T HC1.out (by omega)).mono ?_
    rintro e w2 ⟨rfl, hB2⟩
    have hB12 := hB1.trans (hB2.mono hB1.size)
    have hBa : Below w2.heap.size w2 (w2.alloc (.cells #[.int .i64 x] 27)) := (Below.refl _ _).alloc (Nat.le_refl _) _
    have HTa := Hid.mk ((HT.out.below hB12).below hBa)
    have HCa := Hid.mk ((HC1.out.below hB2).below hBa)
    have hBt := hB12.alloc hB12.size (.cells #[.int .i64 x] 27)
    rcases kind_cases T with ⟨j, hk, hj2, hj⟩ | ⟨hk, n0, n1, n2⟩
    · have HU := Hid.mk (unmarshal_hit (w2.alloc (.cells #[.int .i64 x] 27)) nb no nc w2.heap.size x a1 c1 T j HTa.out (by simp) (by simp) HCa.out HE1.out HS1.out hj)
      rw [hk]
      clear hk hj hBa
      go_wp2_with fail
      refine HU.out.mono ?_
      rintro e w3 ⟨rfl, rfl⟩
      go_wp2_with fail
      go_ret
      exact ⟨rfl, hB12.alloc hB12.size _⟩
    · have HU := Hid.mk (unmarshal_miss F (w2.alloc (.cells #[.int .i64 x] 27)) (by show F.answers w2.tape; rw [hB12.tape]; exact hF) nb no nc w2.heap.size a1 c1 T HTa.out HCa.out HE1.out HS1.out n0 n1 n2)
      rw [hk]
      clear hk n0 n1 n2 hBa
      go_wp2_with fail
      refine HU.out.mono ?_
      rintro e w3 ⟨y, rfl, hB3⟩
      have hk3 : w3.cell? ⟨w2.heap.size, 0, none⟩ = some (.int .i64 x) := (hB3.cell (p := ⟨w2.heap.size, 0, none⟩) (by simp)).trans (by simp)
      go_wp2_with fail
      go_ret
      exact ⟨rfl, hBt.trans (hB3.mono hBt.size)⟩

end Go.Proofs.Qxb6603553aFmt
