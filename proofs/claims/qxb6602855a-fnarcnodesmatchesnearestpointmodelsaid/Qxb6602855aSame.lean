import Derived.Test.Qxb6602855aBase
namespace Go.Proofs.Qxb6602855a
open Go.RowKit

set_option maxHeartbeats 800000 in
/-- 'zzSameList' of two lists that are the same. -/
theorem same_any (w : World) (a b : Option Addr) (n c d : Nat) (S : Nat → ByteArray) (hn : a.isNone = b.isNone) (h1 : Cells w a n fun i => .string (S i)) (h2 : Cells w b n fun i => .string (S i)) (hm : n ≤ 1048576) :
    Calls Try.prog 16 #[.slice a n c, .slice b n d] w fun e w' => e = .returned (.bool true) ∧ Below w.heap.size w w' := by
  have hq := fun w a n c => Lib.run_eql_slice_nil (P := Try.prog) w 22 9 a n c 0 0 Try.underlying22
  have hx : (!(a.isNone == b.isNone)) = false := by rw [hn]; simp
  have HN : Hid (a.isNone = b.isNone) := hn
  clear hn
  go_enter Try.func16, Try.ntmps16
  go_wp2
  go_loopw [5] (fun i wr => ∃ k : Nat, k ≤ n ∧ i = .int .i64 k ∧ Below w.heap.size w wr) (fun i _ => n - (intOf i).toNat)
  case atStart => exact ⟨0, Nat.zero_le _, rfl, Below.refl _ _⟩
  case round =>
    obtain ⟨k, hk, rfl, hBk⟩ := hrel
    by_cases hlt : k < n
    · obtain ⟨b1, o1, e1, hc1⟩ := h1 k hlt
      obtain ⟨b2, o2, e2, hc2⟩ := h2 k hlt
      subst e1 e2
      have hk1 : wr.cell? ⟨b1, o1 + k, none⟩ = some (.string (S k)) := (hBk.cell (p := ⟨b1, o1 + k, none⟩) (World.block_lt_of_cell? w _ hc1)).trans hc1
      have hk2 : wr.cell? ⟨b2, o2 + k, none⟩ = some (.string (S k)) := (hBk.cell (p := ⟨b2, o2 + k, none⟩) (World.block_lt_of_cell? w _ hc2)).trans hc2
      clear hc1 hc2 h1 h2
      go_wp2
      go_region
      go_wp2
      go_roundw
      case rel => exact ⟨k + 1, by omega, by go_num, hBk.drew⟩
      case measure => simp [intOf]; omega
    · go_wp2
      go_ret
      exact ⟨rfl, hBk⟩

end Go.Proofs.Qxb6602855a
