import Derived.Test.Qxb6603528aProg
import Derived.WalkKit
import Derived.WalkSpells
import Derived.Handy
import Derived.Below
namespace Go.Proofs.Qxb6603528a
open Go.RowKit

/-- A slice's elements: the i-th cell behind its address holds 'f i'. -/
def Cells (w : World) (a : Option Addr) (len : Nat) (f : Nat → Value) : Prop :=
  ∀ i, i < len → ∃ b off, a = some ⟨b, off, none⟩ ∧ w.cell? ⟨b, off + i, none⟩ = some (f i)

theorem Cells.below {w w' : World} {a : Option Addr} {len : Nat} {f : Nat → Value} (h : Cells w a len f) (hb : Below w.heap.size w w') : Cells w' a len f := by
  intro i hi
  obtain ⟨b, off, rfl, hc⟩ := h i hi
  exact ⟨b, off, rfl, (hb.cell (p := ⟨b, off + i, none⟩) (World.block_lt_of_cell? w _ hc)).trans hc⟩

/-- Either it is empty, or it has an address and the cells lie behind it. -/
theorem Cells.cases {w : World} {a : Option Addr} {len : Nat} {f : Nat → Value} (h : Cells w a len f) :
    len = 0 ∨ ∃ b off, a = some ⟨b, off, none⟩ ∧ ∀ i, i < len → w.cell? ⟨b, off + i, none⟩ = some (f i) := by
  rcases Nat.eq_zero_or_pos len with h0 | h0
  · exact .inl h0
  · obtain ⟨b, off, rfl, _⟩ := h 0 h0
    refine .inr ⟨b, off, rfl, fun i hi => ?_⟩
    obtain ⟨b', off', e, hc⟩ := h i hi
    simp at e
    obtain ⟨rfl, rfl⟩ := e
    exact hc


/-- It has answered some bool. -/
def SomeBool (e : Ending) : Prop := ∃ b, e = .returned (.bool b)
theorem SomeBool.mk (b : Bool) : SomeBool (.returned (.bool b)) := ⟨b, rfl⟩

theorem Try.info9 : (Try.prog.info? 9).map (fun i => (i.zero, i.size, i.bytes)) = some (some (.string ⟨#[]⟩), 1, 16) := by kernel_rfl

/-- A row of the call's own: cell j of block g holds 'f j', and may be written. -/
def Own (w : World) (g n : Nat) (f : Nat → Value) : Prop :=
  (∀ j, j < n → w.cell? ⟨g, j, none⟩ = some (f j)) ∧ ∀ j, j < n → w.frozen? ⟨g, j, none⟩ = false

theorem own_of_made {w1 : World} {base e g n cap : Nat} {z : Value} (h : w1.ownsRow base e 1 (.slice (some ⟨g, 0, none⟩) n cap) n (madeCells #[z] n).toList) : Own w1 g n (fun _ => z) :=
  ⟨fun j hj => by rw [h.cellAt j (by omega), toList_madeCells_one]; simp [hj], fun j _ => h.frozenAt j⟩

theorem Own.congr {w : World} {g n : Nat} {f f' : Nat → Value} (h : Own w g n f) (e : ∀ j, j < n → f j = f' j) : Own w g n f' :=
  ⟨fun j hj => by rw [h.1 j hj, e j hj], h.2⟩

theorem Own.set {w : World} {g n : Nat} {f : Nat → Value} (h : Own w g n f) (k : Nat) (v : Value) : Own (w.setCell ⟨g, k, none⟩ v) g n (fun j => if j = k then v else f j) := by
  refine ⟨fun j hj => ?_, fun j hj => ?_⟩
  · by_cases e : j = k
    · subst e; rw [World.cell?_setCell_same _ _ _ (h.1 j hj)]; simp
    · rw [World.cell?_setCell_other _ _ _ _ (by simp only [ne_eq, Addr.mk.injEq]; omega)]; simp only [if_neg e]; exact h.1 j hj
  · rw [World.frozen?_setCell]; exact h.2 j hj

theorem Own.put {w : World} {g n k : Nat} {f : Nat → Value} {z : Value} (h : Own w g n (fun j => if j < k then f j else z)) : Own (w.setCell ⟨g, k, none⟩ (f k)) g n (fun j => if j < k + 1 then f j else z) := by
  refine (h.set k (f k)).congr fun j hj => ?_
  by_cases e : j = k
  · subst e; simp
  · rw [if_neg e]
    by_cases e' : j < k
    · rw [if_pos e', if_pos (by omega)]
    · rw [if_neg e', if_neg (by omega)]

theorem Own.below {w w' : World} {g n : Nat} {f : Nat → Value} (h : Own w g n f) (hb : Below w.heap.size w w') : Own w' g n f :=
  ⟨fun j hj => (hb.cell (p := ⟨g, j, none⟩) (World.block_lt_of_cell? w _ (h.1 j hj))).trans (h.1 j hj), fun j hj => (hb.frozen (p := ⟨g, j, none⟩) (World.block_lt_of_cell? w _ (h.1 j hj))).trans (h.2 j hj)⟩

theorem Own.cells {w : World} {g n : Nat} {f f' : Nat → Value} (h : Own w g n f) (e : ∀ j, j < n → f j = f' j) : Cells w (some ⟨g, 0, none⟩) n f' :=
  fun i hi => ⟨g, 0, rfl, by rw [Nat.zero_add, h.1 i hi, e i hi]⟩

/-- What a copy leaves: a slice of the same length, nil as the other was, with the same elements; nothing that was there has turned. -/
def Copied (w : World) (a : Option Addr) (n : Nat) (f : Nat → Value) (e : Ending) (w' : World) : Prop :=
  ∃ a' c', e = .returned (.slice a' n c') ∧ Cells w' a' n f ∧ a'.isNone = a.isNone ∧ Below w.heap.size w w'

set_option maxHeartbeats 400000 in
theorem clone_any (w : World) (a : Option Addr) (n c : Nat) (S : Nat → ByteArray) (h0 : Cells w a n fun i => .string (S i)) (hn : a = none → n = 0) (hm : n ≤ 1048576) :
    Calls Try.prog 7 #[.slice a n c] w fun e w' => Copied w a n (fun i => .string (S i)) e w' := by
  obtain ⟨i0, hi, hz0, hz1, hz2⟩ := info_parts Try.info9
  have hq := fun w a n c => Lib.run_eql_slice_nil (P := Try.prog) w 22 9 a n c 0 0 Try.underlying22
  match a, h0, hn with
  | none, h0, hn =>
    have hn0 : n = 0 := hn rfl
    subst hn0
    go_enter Try.func7, Try.ntmps7
    go_wp2
    go_ret
    exact ⟨none, 0, rfl, fun i hi => absurd hi (by omega), rfl, Below.refl _ _⟩
  | some ad, h0, hn =>
    have hby : i0.bytes * n ≤ 281474976710656 := by rw [hz2]; omega
    have hml : n ≤ maxLen := by unfold maxLen; omega
    clear hn
    go_enter Try.func7, Try.ntmps7
    go_wp2_with (at_make; refine wpList_make_full _ rfl _ _ 22 rfl w.heap.size 9 i0 (.string ⟨#[]⟩) 1 Try.underlying22 hi hz0 hz1 _ _ _ _ n rfl rfl rfl rfl hby hml (Nat.le_refl _) ?_)
    intro w1 hown hgrow
    have hO := own_of_made hown
    have hB : Below w.heap.size w w1 := (Below.refl _ _).grown hgrow (Nat.le_refl _) (fun k e => by cases e)
    clear hown hgrow hi hz0 hz1 hz2 hby hml
    go_wp2
    go_loopw [4] (fun i wr => ∃ k : Nat, k ≤ n ∧ i = .int .i64 k ∧ Own wr w.heap.size n (fun j => if j < k then .string (S j) else .string ⟨#[]⟩) ∧ Below w.heap.size w wr) (fun i _ => n - (intOf i).toNat)
    case atStart => exact ⟨0, Nat.zero_le _, rfl, hO.congr fun j _ => by simp, hB⟩
    case round =>
      obtain ⟨k, hk, rfl, hOk, hBk⟩ := hrel
      by_cases hlt : k < n
      · obtain ⟨b, off, had, hc⟩ := h0 k hlt
        simp only [Option.some.injEq] at had
        subst had
        have hck : wr.cell? ⟨b, off + k, none⟩ = some (.string (S k)) := (hBk.cell (p := ⟨b, off + k, none⟩) (World.block_lt_of_cell? w _ hc)).trans hc
        have hd : wr.cell? ⟨w.heap.size, k, none⟩ = some (.string ⟨#[]⟩) := (hOk.1 k hlt).trans (by simp)
        have hf := hOk.2 k hlt
        clear hc
        go_wp2
        go_roundw
        case rel => exact ⟨k + 1, by omega, by go_num, hOk.put (f := fun j => .string (S j)), hBk.setCell (Nat.le_refl _) _⟩
        case measure => simp [intOf]; omega
      · go_wp2
        go_ret
        exact ⟨_, _, rfl, hOk.cells fun j hj => by simp; omega, rfl, hBk⟩


set_option maxHeartbeats 1000000 in
theorem bytes5_any (w : World) (t0 : ByteArray) (a : Option Addr) (n c : Nat) (t2 : ByteArray) (t3 : ByteArray) (x4 : Int) (x5 : Int) (x6 : Int) (S : Nat → ByteArray) (h0 : Cells w a n fun i => .string (S i)) :
    Calls Try.prog 5 #[.string t0, .slice a n c, .string t2, .string t3, .int .i64 x4, .int .i64 x5, .int .i64 x6] w fun e w' => SomeBool e ∧ w' = w := by
  by_cases hm : (1048576 : Int) < n
  · go_enter Try.func5, Try.ntmps5
    go_wp2
    all_goals (go_ret; exact ⟨.mk _, rfl⟩)
  rcases h0.cases with rfl | ⟨b, off, rfl, hc⟩
  · clear h0
    go_enter Try.func5, Try.ntmps5
    go_wp2
    all_goals first
      | (go_ret; exact ⟨.mk _, rfl⟩)
      | (go_rounds 1
         all_goals (go_ret; exact ⟨.mk _, rfl⟩))
  · clear h0
    go_enter Try.func5, Try.ntmps5
    go_wp2
    all_goals first
      | (go_ret; exact ⟨.mk _, rfl⟩)
      | (go_loop [15, 16] (fun t i => ∃ k : Nat, ∃ z : Int, k ≤ n ∧ i = .int .i64 k ∧ t = .int .i64 z) (fun _ i => n - (intOf i).toNat)
         case atStart => exact ⟨0, _, Nat.zero_le _, rfl, rfl⟩
         case round =>
           obtain ⟨k, z, hk, rfl, rfl⟩ := hrel
           by_cases hlt : k < n
           · have hck := hc k hlt
             go_wp2
             · go_ret; exact ⟨.mk _, rfl⟩
             · go_ret; exact ⟨.mk _, rfl⟩
             · go_round
               case rel => exact ⟨k + 1, _, by omega, by go_num, rfl⟩
               case measure => simp [intOf]; omega
           · go_wp2
             all_goals (go_ret; exact ⟨.mk _, rfl⟩))

set_option maxHeartbeats 1000000 in
theorem bytes10_any (w : World) (t0 : ByteArray) (t1 : ByteArray) (a : Option Addr) (n c : Nat) (t3 : ByteArray) (S : Nat → ByteArray) (h0 : Cells w a n fun i => .string (S i)) :
    Calls Try.prog 10 #[.string t0, .string t1, .slice a n c, .string t3] w fun e w' => SomeBool e ∧ w' = w := by
  by_cases hm : (1048576 : Int) < n
  · go_enter Try.func10, Try.ntmps10
    go_wp2
    all_goals (go_ret; exact ⟨.mk _, rfl⟩)
  rcases h0.cases with rfl | ⟨b, off, rfl, hc⟩
  · clear h0
    go_enter Try.func10, Try.ntmps10
    go_wp2
    all_goals first
      | (go_ret; exact ⟨.mk _, rfl⟩)
      | (go_rounds 1
         all_goals (go_ret; exact ⟨.mk _, rfl⟩))
  · clear h0
    go_enter Try.func10, Try.ntmps10
    go_wp2
    all_goals first
      | (go_ret; exact ⟨.mk _, rfl⟩)
      | (go_loop [9, 10] (fun t i => ∃ k : Nat, ∃ z : Int, k ≤ n ∧ i = .int .i64 k ∧ t = .int .i64 z) (fun _ i => n - (intOf i).toNat)
         case atStart => exact ⟨0, _, Nat.zero_le _, rfl, rfl⟩
         case round =>
           obtain ⟨k, z, hk, rfl, rfl⟩ := hrel
           by_cases hlt : k < n
           · have hck := hc k hlt
             go_wp2
             · go_ret; exact ⟨.mk _, rfl⟩
             · go_ret; exact ⟨.mk _, rfl⟩
             · go_round
               case rel => exact ⟨k + 1, _, by omega, by go_num, rfl⟩
               case measure => simp [intOf]; omega
           · go_wp2
             all_goals (go_ret; exact ⟨.mk _, rfl⟩))

/-- The bytes of the first n names. -/
def sizes (S : Nat → ByteArray) : Nat → Nat
  | 0 => 0
  | n + 1 => sizes S n + (S n).size

def ChainSaid (S : Nat → ByteArray) (n : Nat) (e : Ending) : Prop := ∃ r : Int, e = .returned (.int .i64 r) ∧ 0 ≤ r ∧ r ≤ 2097152 ∧ (r ≤ 1048576 → (sizes S n : Int) ≤ r)

set_option maxHeartbeats 1000000 in
theorem chainbytes_any (w : World) (a : Option Addr) (n c : Nat) (S : Nat → ByteArray) (h0 : Cells w a n fun i => .string (S i)) (hn : n ≤ 65536) :
    Calls Try.prog 6 #[.slice a n c] w fun e w' => ChainSaid S n e ∧ w' = w := by
  go_enter Try.func6, Try.ntmps6
  go_wp2
  go_loop [3, 4] (fun t i => ∃ k : Nat, ∃ z : Int, k ≤ n ∧ i = .int .i64 k ∧ t = .int .i64 z ∧ 0 ≤ z ∧ z ≤ 1048576 ∧ (sizes S k : Int) ≤ z) (fun _ i => n - (intOf i).toNat)
  case atStart => exact ⟨0, 0, Nat.zero_le _, rfl, rfl, by omega, by omega, by simp [sizes]⟩
  case round =>
    obtain ⟨k, z, hk, rfl, rfl, hz0, hz1, hz2⟩ := hrel
    by_cases hlt : k < n
    · obtain ⟨b, off, had, hck0⟩ := h0 k hlt
      subst had
      have hck : w.cell? ⟨b, off + k, none⟩ = some (.string (S k)) := hck0
      clear hck0
      have HS : Hid (sizes S (k + 1) = sizes S k + (S k).size) := rfl
      generalize sizes S k = sk at *
      generalize hs : S k = s at *
      have HSK : Hid (S k = s) := hs
      clear hs
      by_cases hb : (1048576 : Int) < s.size
      · go_wp2
        go_ret
        exact ⟨⟨2097152, rfl, by omega, by omega, fun h => by omega⟩, rfl⟩
      · by_cases hb2 : (1048576 : Int) < z + (16 + s.size)
        · go_wp2
          go_ret
          exact ⟨⟨2097152, rfl, by omega, by omega, fun h => by omega⟩, rfl⟩
        · go_wp2
          go_round
          case rel => exact ⟨k + 1, _, by omega, by go_num, rfl, by omega, by omega, by rw [HS.out]; omega⟩
          case measure => simp [intOf]; omega
    · go_wp2
      go_ret
      have e : k = n := by omega
      subst e
      exact ⟨⟨z, rfl, hz0, by omega, fun _ => hz2⟩, rfl⟩

end Go.Proofs.Qxb6603528a
