import Derived.Test.Qxb6602855aProg
import Derived.WalkKit
import Derived.WalkSpells
import Derived.Handy
import Derived.Below
namespace Go.Proofs.Qxb6602855a
open Go.RowKit

/-- A slice's elements: the i-th cell behind its address holds 'f i'. -/
def Cells (w : World) (a : Option Addr) (len : Nat) (f : Nat → Value) : Prop :=
  ∀ i, i < len → ∃ b off, a = some ⟨b, off, none⟩ ∧ w.cell? ⟨b, off + i, none⟩ = some (f i)

theorem Cells.below {w w' : World} {a : Option Addr} {len : Nat} {f : Nat → Value} (h : Cells w a len f) (hb : Below w.heap.size w w') : Cells w' a len f := by
  intro i hi
  obtain ⟨b, off, rfl, hc⟩ := h i hi
  exact ⟨b, off, rfl, (hb.cell (p := ⟨b, off + i, none⟩) (World.block_lt_of_cell? w _ hc)).trans hc⟩

/-- Either it is empty, or it has an address and the cells lie behind it. -/
theorem Cells.cases {w : World} {a : Option Addr} {len : Nat} {f : Nat → Value} (h : Cells w a len f) :
    len = 0 ∨ ∃ b off, a = some ⟨b, off, none⟩ ∧ ∀ i, i < len → w.cell? ⟨b, off + i, none⟩ = some (f i) := by
  rcases Nat.eq_zero_or_pos len with h0 | h0
  · exact .inl h0
  · obtain ⟨b, off, rfl, _⟩ := h 0 h0
    refine .inr ⟨b, off, rfl, fun i hi => ?_⟩
    obtain ⟨b', off', e, hc⟩ := h i hi
    simp at e
    obtain ⟨rfl, rfl⟩ := e
    exact hc


def rep (N n : Int) : Int := if n > N then N else if n < 1 then 0 else n
theorem rep_hi {N n : Int} (h : n > N) : rep N n = N := by rw [rep, if_pos h]
theorem rep_lo {N n : Int} (h : n ≤ N) (h1 : n < 1) : rep N n = 0 := by rw [rep, if_neg (by omega), if_pos h1]
theorem rep_mid {N n : Int} (h : n ≤ N) (h1 : 1 ≤ n) : rep N n = n := by rw [rep, if_neg (by omega), if_neg (by omega)]

theorem ret_int {k : IntKind} {a b : Int} (h : a = b) : Ending.returned (.int k a) = .returned (.int k b) := by rw [h]

set_option maxHeartbeats 400000 in
theorem rep_any (N n : Int) (w : World) : Calls Try.prog 9 #[.int .i64 N, .int .i64 n] w fun e w' => e = .returned (.int .i64 (rep N n)) ∧ w' = w := by
  by_cases h : n > N
  · go_enter Try.func9, Try.ntmps9
    go_wp2
    go_ret
    exact ⟨ret_int (rep_hi h).symm, rfl⟩
  · by_cases h1 : n < 1
    · go_enter Try.func9, Try.ntmps9
      go_wp2
      go_ret
      exact ⟨ret_int (rep_lo (by omega) h1).symm, rfl⟩
    · go_enter Try.func9, Try.ntmps9
      go_wp2
      go_ret
      exact ⟨ret_int (rep_mid (by omega) (by omega)).symm, rfl⟩

/-- It has answered some bool. -/
def SomeBool (e : Ending) : Prop := ∃ b, e = .returned (.bool b)
theorem SomeBool.mk (b : Bool) : SomeBool (.returned (.bool b)) := ⟨b, rfl⟩

set_option maxHeartbeats 400000 in
/-- 'zzBytesOK': some bool; nothing turns. -/
theorem bytesok_any (w : World) (a0 a1 a2 a3 : Option Addr) (n0 c0 n1 c1 n2 c2 n3 c3 : Nat) (S : Nat → ByteArray)
    (h0 : Cells w a0 n0 fun i => .string (S i)) (hm : n0 ≤ 4096) (hS : ∀ i, (S i).size ≤ maxLen) :
    Calls Try.prog 7 #[.slice a0 n0 c0, .slice a1 n1 c1, .slice a2 n2 c2, .slice a3 n3 c3] w fun e w' => SomeBool e ∧ w' = w := by
  unfold maxLen at hS
  rcases h0.cases with rfl | ⟨b, off, rfl, hc⟩
  · clear h0
    go_enter Try.func7, Try.ntmps7
    go_wp2
    · go_ret
      exact ⟨.mk _, rfl⟩
    · go_rounds 1
      all_goals (go_ret; exact ⟨.mk _, rfl⟩)
  · clear h0
    go_enter Try.func7, Try.ntmps7
    go_wp2
    · go_ret
      exact ⟨.mk _, rfl⟩
    · go_loop [9, 10] (fun t i => ∃ k : Nat, ∃ z : Int, k ≤ n0 ∧ i = .int .i64 k ∧ t = .int .i64 z) (fun _ i => n0 - (intOf i).toNat)
      case atStart => exact ⟨0, _, Nat.zero_le _, rfl, rfl⟩
      case round =>
        obtain ⟨k, z, hk, rfl, rfl⟩ := hrel
        by_cases hlt : k < n0
        · have hck := hc k hlt
          have hsk := hS k
          go_wp2
          · go_ret; exact ⟨.mk _, rfl⟩
          · go_ret; exact ⟨.mk _, rfl⟩
          · go_round
            case rel => exact ⟨k + 1, _, by omega, by go_num, rfl⟩
            case measure => simp [intOf]; omega
        · go_wp2
          go_ret
          exact ⟨.mk _, rfl⟩

set_option maxHeartbeats 1000000 in
/-- 'zzBytes_..': some bool; nothing turns. -/
theorem bytes17_any (w : World) (a0 a1 a2 a3 : Option Addr) (n0 c0 n1 c1 n2 c2 n3 c3 : Nat) (v x0 x1 x2 : Int) (S : Nat → ByteArray)
    (h0 : Cells w a0 n0 fun i => .string (S i)) (hS : ∀ i, (S i).size ≤ maxLen) :
    Calls Try.prog 17 #[.slice a0 n0 c0, .int .i64 v, .slice a1 n1 c1, .slice a2 n2 c2, .slice a3 n3 c3, .int .i64 x0, .int .i64 x1, .int .i64 x2] w fun e w' => SomeBool e ∧ w' = w := by
  unfold maxLen at hS
  by_cases hm : (1048576 : Int) < n0
  · go_enter Try.func17, Try.ntmps17
    go_wp2
    go_ret
    exact ⟨.mk _, rfl⟩
  rcases h0.cases with rfl | ⟨b, off, rfl, hc⟩
  · clear h0
    go_enter Try.func17, Try.ntmps17
    go_wp2
    go_rounds 1
    all_goals (go_ret; exact ⟨.mk _, rfl⟩)
  · clear h0
    go_enter Try.func17, Try.ntmps17
    go_wp2
    go_loop [17, 18] (fun t i => ∃ k : Nat, ∃ z : Int, k ≤ n0 ∧ i = .int .i64 k ∧ t = .int .i64 z) (fun _ i => n0 - (intOf i).toNat)
    case atStart => exact ⟨0, _, Nat.zero_le _, rfl, rfl⟩
    case round =>
      obtain ⟨k, z, hk, rfl, rfl⟩ := hrel
      by_cases hlt : k < n0
      · have hck := hc k hlt
        have hsk := hS k
        go_wp2
        · go_ret; exact ⟨.mk _, rfl⟩
        · go_ret; exact ⟨.mk _, rfl⟩
        · go_round
          case rel => exact ⟨k + 1, _, by omega, by go_num, rfl⟩
          case measure => simp [intOf]; omega
      · go_wp2
        all_goals (go_ret; exact ⟨.mk _, rfl⟩)

set_option maxHeartbeats 1000000 in
/-- 'zzBytes_..': some bool; nothing turns. -/
theorem bytes6_any (w : World) (a0 a1 a2 a3 : Option Addr) (n0 c0 n1 c1 n2 c2 n3 c3 : Nat) (v x0 x1 : Int) (S : Nat → ByteArray)
    (h0 : Cells w a0 n0 fun i => .string (S i)) (hS : ∀ i, (S i).size ≤ maxLen) :
    Calls Try.prog 6 #[.slice a0 n0 c0, .int .i64 v, .slice a1 n1 c1, .slice a2 n2 c2, .slice a3 n3 c3, .int .i64 x0, .int .i64 x1] w fun e w' => SomeBool e ∧ w' = w := by
  unfold maxLen at hS
  by_cases hm : (1048576 : Int) < n0
  · go_enter Try.func6, Try.ntmps6
    go_wp2
    go_ret
    exact ⟨.mk _, rfl⟩
  rcases h0.cases with rfl | ⟨b, off, rfl, hc⟩
  · clear h0
    go_enter Try.func6, Try.ntmps6
    go_wp2
    go_rounds 1
    all_goals (go_ret; exact ⟨.mk _, rfl⟩)
  · clear h0
    go_enter Try.func6, Try.ntmps6
    go_wp2
    go_loop [15, 16] (fun t i => ∃ k : Nat, ∃ z : Int, k ≤ n0 ∧ i = .int .i64 k ∧ t = .int .i64 z) (fun _ i => n0 - (intOf i).toNat)
    case atStart => exact ⟨0, _, Nat.zero_le _, rfl, rfl⟩
    case round =>
      obtain ⟨k, z, hk, rfl, rfl⟩ := hrel
      by_cases hlt : k < n0
      · have hck := hc k hlt
        have hsk := hS k
        go_wp2
        · go_ret; exact ⟨.mk _, rfl⟩
        · go_ret; exact ⟨.mk _, rfl⟩
        · go_round
          case rel => exact ⟨k + 1, _, by omega, by go_num, rfl⟩
          case measure => simp [intOf]; omega
      · go_wp2
        all_goals (go_ret; exact ⟨.mk _, rfl⟩)

set_option maxHeartbeats 1000000 in
/-- 'zzBytes_..': some bool; nothing turns. -/
theorem bytes18_any (w : World) (a0 a1 a2 a3 : Option Addr) (n0 c0 n1 c1 n2 c2 n3 c3 : Nat) (v x0 x1 : Int) (S : Nat → ByteArray)
    (h0 : Cells w a0 n0 fun i => .string (S i)) (hS : ∀ i, (S i).size ≤ maxLen) :
    Calls Try.prog 18 #[.slice a0 n0 c0, .int .i64 v, .slice a1 n1 c1, .slice a2 n2 c2, .slice a3 n3 c3, .int .i64 x0, .int .i64 x1] w fun e w' => SomeBool e ∧ w' = w := by
  unfold maxLen at hS
  by_cases hm : (1048576 : Int) < n0
  · go_enter Try.func18, Try.ntmps18
    go_wp2
    go_ret
    exact ⟨.mk _, rfl⟩
  rcases h0.cases with rfl | ⟨b, off, rfl, hc⟩
  · clear h0
    go_enter Try.func18, Try.ntmps18
    go_wp2
    go_rounds 1
    all_goals (go_ret; exact ⟨.mk _, rfl⟩)
  · clear h0
    go_enter Try.func18, Try.ntmps18
    go_wp2
    go_loop [15, 16] (fun t i => ∃ k : Nat, ∃ z : Int, k ≤ n0 ∧ i = .int .i64 k ∧ t = .int .i64 z) (fun _ i => n0 - (intOf i).toNat)
    case atStart => exact ⟨0, _, Nat.zero_le _, rfl, rfl⟩
    case round =>
      obtain ⟨k, z, hk, rfl, rfl⟩ := hrel
      by_cases hlt : k < n0
      · have hck := hc k hlt
        have hsk := hS k
        go_wp2
        · go_ret; exact ⟨.mk _, rfl⟩
        · go_ret; exact ⟨.mk _, rfl⟩
        · go_round
          case rel => exact ⟨k + 1, _, by omega, by go_num, rfl⟩
          case measure => simp [intOf]; omega
      · go_wp2
        all_goals (go_ret; exact ⟨.mk _, rfl⟩)

end Go.Proofs.Qxb6602855a
