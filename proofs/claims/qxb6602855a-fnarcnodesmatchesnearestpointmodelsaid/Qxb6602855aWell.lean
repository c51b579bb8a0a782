import Derived.Test.Qxb6602855aCopy
namespace Go.Proofs.Qxb6602855a
open Go.RowKit

/-- How many of the first n are marked. -/
def cnt (B : Nat → Bool) : Nat → Nat
  | 0 => 0
  | n + 1 => cnt B n + (if B n then 1 else 0)

theorem cnt_zero (n : Nat) : cnt (fun _ => false) n = 0 := by induction n with | zero => rfl | succ n ih => simp [cnt, ih]
theorem cnt_le (B : Nat → Bool) : ∀ n, cnt B n ≤ n
  | 0 => Nat.le_refl _
  | n + 1 => by have := cnt_le B n; simp only [cnt]; split <;> omega
theorem cnt_full {B : Nat → Bool} : ∀ n, cnt B n = n → ∀ u, u < n → B u = true
  | 0, _, u, hu => by omega
  | n + 1, h, u, hu => by
    have h1 := cnt_le B n
    simp only [cnt] at h
    by_cases hb : B n = true
    · rw [if_pos hb] at h
      by_cases e : u = n
      · subst e; exact hb
      · exact cnt_full n (by omega) u (by omega)
    · rw [if_neg hb] at h; omega
theorem cnt_same {B B' : Nat → Bool} : ∀ n, (∀ j, j < n → B j = B' j) → cnt B n = cnt B' n
  | 0, _ => rfl
  | n + 1, h => by simp only [cnt]; rw [cnt_same n fun j hj => h j (by omega), h n (by omega)]
theorem cnt_set {B : Nat → Bool} {u : Nat} (hb : B u = false) : ∀ n, u < n → cnt (fun j => if j = u then true else B j) n = cnt B n + 1
  | 0, h => by omega
  | n + 1, h => by
    by_cases e : u = n
    · subst e
      simp only [cnt]
      rw [cnt_same u (B := fun j => if j = u then true else B j) (B' := B) fun j hj => by simp [show j ≠ u by omega]]
      simp [hb]
    · have ih := cnt_set hb n (by omega)
      simp only [cnt]
      rw [ih]
      simp only [if_neg (show ¬ n = u by omega)]
      omega

/-- What a well-formed ring is. -/
structure Well (N n1 n2 n3 : Nat) (Z : Nat → Nat) : Prop where
  l2 : n2 = n1
  l3 : n3 = n1
  lt : ∀ i, i < n1 → Z i < N
  all : ∀ u, u < N → ∃ i, i < n1 ∧ Z i = u

def WellSaid (w : World) (N n1 n2 n3 : Nat) (Z : Nat → Nat) (e : Ending) (w' : World) : Prop :=
  ∃ b, e = .returned (.bool b) ∧ (b = true → Well N n1 n2 n3 Z) ∧ Below w.heap.size w w'

set_option maxHeartbeats 800000 in
theorem well_any (w : World) (a1 a2 a3 : Option Addr) (N n1 c1 n2 c2 n3 c3 : Nat) (Z : Nat → Nat) (h2 : Cells w a2 n2 fun i => .int .u32 (Z i : Nat)) (hZ : ∀ i, (Z i : Int) ≤ 4294967295)
    (hN : N ≤ 4096) (hm : n2 ≤ 131072) :
    Calls Try.prog 8 #[.int .i64 N, .slice a1 n1 c1, .slice a2 n2 c2, .slice a3 n3 c3] w fun e w' => WellSaid w N n1 n2 n3 Z e w' := by
  by_cases e2 : n2 = n1
  rotate_left
  · have hne : ((n2 : Int) != (n1 : Int)) = true := by simp; omega
    go_enter Try.func8, Try.ntmps8
    go_wp2
    go_ret
    exact ⟨_, rfl, fun h => (by cases h), Below.refl _ _⟩
  by_cases e3 : n3 = n1
  rotate_left
  · have hne : ((n2 : Int) != (n1 : Int)) = false := by simp; omega
    have hne : ((n3 : Int) != (n1 : Int)) = true := by simp; omega
    go_enter Try.func8, Try.ntmps8
    go_wp2
    go_ret
    exact ⟨_, rfl, fun h => (by cases h), Below.refl _ _⟩
  subst e2 e3
  obtain ⟨i0, hi, hz0, hz1, hz2⟩ := info_parts Try.info4
  have hby : i0.bytes * N ≤ 281474976710656 := by rw [hz2]; omega
  have hml : N ≤ maxLen := by unfold maxLen; omega
  go_enter Try.func8, Try.ntmps8
  go_wp2_with (at_make; refine wpList_make_full _ rfl _ _ 38 rfl w.heap.size 4 i0 (.bool false) 1 Try.underlying38 hi hz0 hz1 _ _ _ _ N rfl rfl rfl rfl hby hml (Nat.le_refl _) ?_)
  intro w1 hown hgrow
  have hO := own_of_made hown
  have hB : Below w.heap.size w w1 := (Below.refl _ _).grown hgrow (Nat.le_refl _) (fun k e => by cases e)
  clear hown hgrow hi hz0 hz1 hz2 hby hml
  go_wp2
  go_loopw [10, 11] (fun t i wr => ∃ k : Nat, ∃ B : Nat → Bool, k ≤ n3 ∧ i = .int .i64 k ∧ t = .int .i64 (cnt B N : Nat) ∧ Own wr w.heap.size N (fun j => .bool (B j)) ∧ (∀ u, u < N → B u = true → ∃ i, i < k ∧ Z i = u) ∧ (∀ i, i < k → Z i < N) ∧ Below w.heap.size w wr) (fun _ i _ => n3 - (intOf i).toNat)
  case atStart => exact ⟨0, fun _ => false, Nat.zero_le _, rfl, by rw [cnt_zero]; rfl, hO, fun u _ h => (by cases h), fun i hi => (by omega), hB⟩
  case round =>
    obtain ⟨k, B, hk, rfl, rfl, hOk, hB1, hB2, hBk⟩ := hrel
    have hcl := cnt_le B N
    by_cases hlt : k < n3
    · obtain ⟨b, off, had, hc⟩ := h2 k hlt
      subst had
      have hck : wr.cell? ⟨b, off + k, none⟩ = some (.int .u32 (Z k : Nat)) := (hBk.cell (p := ⟨b, off + k, none⟩) (World.block_lt_of_cell? w _ hc)).trans hc
      have hzk := hZ k
      clear hc
      by_cases hzN : Z k < N
      · have hd : wr.cell? ⟨w.heap.size, Z k, none⟩ = some (.bool (B (Z k))) := hOk.1 (Z k) hzN
        have hf := hOk.2 (Z k) hzN
        have H1 : Hid (∀ u, u < N → B u = true → ∃ i, i < k ∧ Z i = u) := hB1
        have H2 : Hid (∀ i, i < k → Z i < N) := hB2
        clear hB1 hB2 hZ h2
        cases hbz : B (Z k) with
        | false =>
          rw [hbz] at hd
          have HB : Hid (B (Z k) = false) := hbz
          clear hbz
          go_wp2
          go_roundw
          case rel =>
            refine ⟨k + 1, fun j => if j = Z k then true else B j, by omega, by go_num, by rw [cnt_set HB.out N hzN]; go_num, (hOk.set (Z k) (.bool true)).congr fun j _ => by by_cases e : j = Z k <;> simp [e], ?_, ?_, hBk.setCell (Nat.le_refl _) _⟩
            · intro u hu hb
              by_cases e : u = Z k
              · exact ⟨k, by omega, e.symm⟩
              · simp only [if_neg e] at hb
                obtain ⟨i, hi, hz⟩ := H1.out u hu hb
                exact ⟨i, by omega, hz⟩
            · intro i hi
              by_cases e : i = k
              · subst e; exact hzN
              · exact H2.out i (by omega)
          case measure => simp [intOf]; omega
        | true =>
          rw [hbz] at hd
          clear hbz
          go_wp2
          go_roundw
          case rel =>
            refine ⟨k + 1, B, by omega, by go_num, rfl, hOk, ?_, ?_, hBk⟩
            · intro u hu hb
              obtain ⟨i, hi, hz⟩ := H1.out u hu hb
              exact ⟨i, by omega, hz⟩
            · intro i hi
              by_cases e : i = k
              · subst e; exact hzN
              · exact H2.out i (by omega)
          case measure => simp [intOf]; omega
      · clear hB1 hB2 hZ h2
        go_wp2
        go_ret
        exact ⟨_, rfl, fun h => (by cases h), hBk⟩
    · have H1 : Hid (∀ u, u < N → B u = true → ∃ i, i < k ∧ Z i = u) := hB1
      have H2 : Hid (∀ i, i < k → Z i < N) := hB2
      clear hB1 hB2 hZ h2
      go_wp2
      go_ret
      refine ⟨_, rfl, fun h => ⟨rfl, rfl, fun i hi => H2.out i (by omega), fun u hu => ?_⟩, hBk⟩
      have e : cnt B N = N := by simp at h; omega
      obtain ⟨i, hi, hz⟩ := H1.out u hu (cnt_full N e u hu)
      exact ⟨i, by omega, hz⟩

end Go.Proofs.Qxb6602855a
