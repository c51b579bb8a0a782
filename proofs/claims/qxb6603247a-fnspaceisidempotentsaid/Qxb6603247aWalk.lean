import Derived.Test.Qxb6603247aProg
import Derived.WalkKit
import Derived.WalkSpells
import Derived.Handy
import Derived.Deep.LoopGhost
namespace Go.Proofs.Qxb6603247a
open Go.RowKit

/-- A reader in memory. -/
structure Reads (w : World) (r : Nat) (s : ByteArray) (p : Int) (f : Bool) : Prop where
  data : w.cell? ⟨r, 0, none⟩ = some (.string s)
  pos : w.cell? ⟨r, 1, none⟩ = some (.int .i64 p)
  failed : w.cell? ⟨r, 2, none⟩ = some (.bool f)
  free : w.frozen? ⟨r, 1, none⟩ = false

theorem Reads.set {w : World} {r : Nat} {s : ByteArray} {p : Int} {f : Bool} (h : Reads w r s p f) (q : Int) : Reads (w.setCell ⟨r, 1, none⟩ (.int .i64 q)) r s q f :=
  ⟨by rw [World.cell?_setCell_other _ _ _ _ (by simp)]; exact h.data, World.cell?_setCell_same _ _ _ h.pos, by rw [World.cell?_setCell_other _ _ _ _ (by simp)]; exact h.failed, by rw [World.frozen?_setCell]; exact h.free⟩

theorem Reads.drew {w : World} {r : Nat} {s : ByteArray} {p : Int} {f : Bool} (h : Reads w r s p f) : Reads w.drew r s p f := ⟨h.data, h.pos, h.failed, h.free⟩

set_option maxHeartbeats 400000 in
/-- 'ZZState': the three fields; nothing turns. -/
theorem state_any (w : World) (r : Nat) (s : ByteArray) (p : Int) (f : Bool) (h : Reads w r s p f) :
    Calls Try.prog 11 #[.pointer (some ⟨r, 0, none⟩)] w fun e w' => e = .returned (.tuple #[.string s, .int .i64 p, .bool f]) ∧ w' = w.drew := by
  have h0 := h.data
  have h1 := h.pos
  have h2 := h.failed
  clear h
  go_enter Try.func11, Try.ntmps11
  go_wp2
  go_region
  go_wp2
  go_ret3
  exact ⟨rfl, rfl⟩

/-- There the white space ends. -/
def Stop (s : ByteArray) (p : Nat) : Prop := p = s.size ∨ ∃ h : p < s.size, ((s[p].toNat : Int) == 32) = false ∧ ((s[p].toNat : Int) == 9) = false ∧ ((s[p].toNat : Int) == 10) = false ∧ ((s[p].toNat : Int) == 13) = false

def Spaced (w : World) (r : Nat) (s : ByteArray) (p : Nat) (f : Bool) (e : Ending) (w' : World) : Prop :=
  e = .returned (.tuple #[]) ∧ ∃ q : Nat, q ≤ s.size ∧ Stop s q ∧ (Stop s p → q = p) ∧ Reads w' r s q f ∧ Below r w w'

theorem not_stop {s : ByteArray} {p q : Nat} (hlt : q < s.size) (h : Stop s p → q = p)
    (hw : ((s[q].toNat : Int) == 32) = true ∨ ((s[q].toNat : Int) == 9) = true ∨ ((s[q].toNat : Int) == 10) = true ∨ ((s[q].toNat : Int) == 13) = true) : ¬ Stop s p := by
  intro hs
  have e := h hs
  subst e
  rcases hs with e | ⟨hl, h1, h2, h3, h4⟩
  · omega
  · rw [h1, h2, h3, h4] at hw
    simp at hw

theorem Reads.step {w : World} {r : Nat} {s : ByteArray} {q : Nat} {f : Bool} (h : Reads w r s q f) : Reads (w.setCell ⟨r, 1, none⟩ (.int .i64 ((q : Int) + 1))).drew.drew r s ((q + 1 : Nat) : Int) f := by
  rw [show ((q + 1 : Nat) : Int) = (q : Int) + 1 from by omega]
  exact (h.set ((q : Int) + 1)).drew.drew

set_option maxHeartbeats 400000 in
theorem space_any (w : World) (r : Nat) (s : ByteArray) (p : Nat) (f : Bool) (hp : p ≤ s.size) (hs : s.size ≤ 1048576) (h : Reads w r s p f) :
    Calls Try.prog 23 #[.pointer (some ⟨r, 0, none⟩)] w fun e w' => Spaced w r s p f e w' := by
  go_enter Try.func23, Try.ntmps23
  go_wp2
  go_loopg [21] (s.size - p) (fun k _ wr => ∃ q : Nat, q ≤ s.size ∧ k = s.size - q ∧ (Stop s p → q = p) ∧ Reads wr r s q f ∧ Below r w wr)
  case atStart => exact ⟨p, hp, rfl, fun _ => rfl, h, Below.refl _ _⟩
  case round =>
    obtain ⟨q, hq, rfl, hst, hR, hB⟩ := hrel
    have HS : Hid (Stop s p → q = p) := hst
    have h0 := hR.data
    have h1 := hR.pos
    have hf := hR.free
    clear h hst
    by_cases hlt : q < s.size
    · go_wp2
      go_region
      go_wp2
      go_region
      go_wp2
      · have hw : ((s[q].toNat : Int) == 32) = true := by assumption
        go_roundg (s.size - (q + 1))
        case measure => omega
        case rel => exact ⟨q + 1, by omega, rfl, fun hp => absurd hp (not_stop hlt HS.out (.inl hw)), hR.step, (hB.setCell (Nat.le_refl _) _).drew.drew⟩
      · have hw : ((s[q].toNat : Int) == 9) = true := by assumption
        go_roundg (s.size - (q + 1))
        case measure => omega
        case rel => exact ⟨q + 1, by omega, rfl, fun hp => absurd hp (not_stop hlt HS.out (.inr (.inl hw))), hR.step, (hB.setCell (Nat.le_refl _) _).drew.drew⟩
      · have hw : ((s[q].toNat : Int) == 10) = true := by assumption
        go_roundg (s.size - (q + 1))
        case measure => omega
        case rel => exact ⟨q + 1, by omega, rfl, fun hp => absurd hp (not_stop hlt HS.out (.inr (.inr (.inl hw)))), hR.step, (hB.setCell (Nat.le_refl _) _).drew.drew⟩
      · have hw : ((s[q].toNat : Int) == 13) = true := by assumption
        go_roundg (s.size - (q + 1))
        case measure => omega
        case rel => exact ⟨q + 1, by omega, rfl, fun hp => absurd hp (not_stop hlt HS.out (.inr (.inr (.inr hw)))), hR.step, (hB.setCell (Nat.le_refl _) _).drew.drew⟩
      · have w1 : ((s[q].toNat : Int) == 32) = false := by assumption
        have w2 : ((s[q].toNat : Int) == 9) = false := by assumption
        have w3 : ((s[q].toNat : Int) == 10) = false := by assumption
        have w4 : ((s[q].toNat : Int) == 13) = false := by assumption
        go_returns
        exact ⟨rfl, q, hq, .inr ⟨hlt, w1, w2, w3, w4⟩, HS.out, hR.drew.drew, hB.drew.drew⟩
    · go_wp2
      go_region
      go_wp2
      go_returns
      exact ⟨rfl, q, hq, .inl (by omega), HS.out, hR.drew, hB.drew⟩

set_option maxHeartbeats 400000 in
theorem zzspace_any (w : World) (r : Nat) (s : ByteArray) (p : Nat) (f : Bool) (hp : p ≤ s.size) (hs : s.size ≤ 1048576) (h : Reads w r s p f) :
    Calls Try.prog 10 #[.pointer (some ⟨r, 0, none⟩)] w fun e w' => Spaced w r s p f e w' := by
  go_enter Try.func10, Try.ntmps10
  go_wp2_with fail
  refine (space_any _ _ s p f hp hs h).mono ?_
  rintro e w1 ⟨rfl, h1⟩
  go_wp2_with fail
  go_returns
  exact ⟨rfl, h1⟩

set_option maxHeartbeats 400000 in
theorem bytes_any (w : World) (s : ByteArray) (p : Int) (f : Bool) :
    Calls Try.prog 13 #[.string s, .int .i64 p, .bool f] w fun e w' => e = .returned (.bool (decide (s.size ≤ 1048576))) ∧ w' = w := by
  by_cases h : (1048576 : Int) < s.size
  · have hd : decide (s.size ≤ 1048576) = false := by simp; omega
    have HD := hd
    rw [HD]
    clear hd HD
    go_enter Try.func13, Try.ntmps13
    go_wp2
    go_ret
    exact ⟨rfl, rfl⟩
  · have hd : decide (s.size ≤ 1048576) = true := by simp; omega
    have HD := hd
    rw [HD]
    clear hd HD
    go_enter Try.func13, Try.ntmps13
    go_wp2
    go_ret
    exact ⟨rfl, rfl⟩

set_option maxHeartbeats 400000 in
theorem reader_any (w : World) (s : ByteArray) (p : Int) (f : Bool) :
    Calls Try.prog 9 #[.string s, .int .i64 p, .bool f] w fun e w' => e = .returned (.pointer (some ⟨w.heap.size, 0, none⟩)) ∧ w' = w.alloc (.cells #[.string s, .int .i64 p, .bool f] 38) := by
  go_enter Try.func9, Try.ntmps9
  go_wp2
  go_ret
  exact ⟨rfl, rfl⟩

set_option maxHeartbeats 1000000 in
theorem law_any (w : World) (s : ByteArray) (p : Int) (f : Bool) :
    Calls Try.prog 4 #[.string s, .int .i64 p, .bool f] w fun e w' => e = .returned (.bool true) ∧ Below w.heap.size w w' := by
  by_cases hs : s.size ≤ 1048576
  rotate_left
  · have hd : decide (s.size ≤ 1048576) = false := by simp; omega
    go_enter Try.func4, Try.ntmps4
    go_wp2_with fail
    refine (bytes_any _ s p f).mono ?_
    rw [hd]
    rintro e w1 ⟨rfl, hw⟩
    have hw := hw.symm
    subst hw
    go_wp2_with fail
    go_ret
    exact ⟨rfl, Below.refl _ _⟩
  have hd : decide (s.size ≤ 1048576) = true := by simp; omega
  go_enter Try.func4, Try.ntmps4
  go_wp2_with fail
  refine (bytes_any _ s p f).mono ?_
  rw [hd]
  rintro e w1 ⟨rfl, hw⟩
  have hw := hw.symm
  subst hw
  clear hd
  by_cases hp0 : p < 0
  · go_wp2_with fail
    go_ret
    exact ⟨rfl, Below.refl _ _⟩
  by_cases hp1 : (s.size : Int) < p
  · go_wp2_with fail
    go_ret
    exact ⟨rfl, Below.refl _ _⟩
  obtain ⟨P, rfl⟩ := Int.eq_ofNat_of_zero_le (show 0 ≤ p by omega)
  go_wp2_with fail
  refine (reader_any _ s _ f).mono ?_
  rintro e w1 ⟨rfl, hw⟩
  have hR1 : Reads w1 w.heap.size s P f := by subst hw; exact ⟨by simp, by simp, by simp, by simp⟩
  have hB1 : Below w.heap.size w w1 := by subst hw; exact (Below.refl _ _).alloc (Nat.le_refl _) _
  clear hw
  go_wp2_with fail
  refine (zzspace_any _ _ s P f (by omega) hs hR1).mono ?_
  rintro e w2 ⟨rfl, q, hq, hst, _, hR2, hB2⟩
  go_wp2_with fail
  refine (state_any _ _ s q f hR2).mono ?_
  rintro e w3 ⟨rfl, rfl⟩
  go_wp2_with fail
  refine (zzspace_any _ _ s q f hq hs hR2.drew).mono ?_
  rintro e w4 ⟨rfl, q', hq', _, he, hR4, hB4⟩
  have he := he hst
  subst he
  go_wp2_with fail
  refine (state_any _ _ s q' f hR4).mono ?_
  rintro e w5 ⟨rfl, rfl⟩
  go_wp2_with fail
  go_ret
  exact ⟨rfl, ((hB1.trans hB2).trans ((Below.refl _ _).drew.trans hB4)).drew⟩

end Go.Proofs.Qxb6603247a
