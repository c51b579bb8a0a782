import Derived.Test.Qxb6602855aLaw4
namespace Go.Proofs.Qxb6602855a
open Go.RowKit

/-- How far clockwise from point st point j lies, of L points. -/
def far (L st j : Nat) : Nat := if j < st then j + L - st else j - st

theorem far_lt {L st j : Nat} (hs : st < L) (hj : j < L) : far L st j < L := by unfold far; split <;> omega

theorem turn_far {Z : Nat → Nat} {L A j : Nat} (hL : 0 < L) (hj : j < L) : turn Z L A (far L (A % L) j) = Z j := by
  unfold turn
  have h1 := Nat.mod_lt A hL
  have h3 := Nat.div_add_mod A L
  have h2 : (A + far L (A % L) j) % L = j := by
    unfold far
    split
    · have : A + (j + L - A % L) = j + L * (A / L + 1) := by rw [Nat.mul_add, Nat.mul_one]; omega
      rw [this, Nat.add_mul_mod_self_left, Nat.mod_eq_of_lt hj]
    · have : A + (j - A % L) = j + L * (A / L) := by omega
      rw [this, Nat.add_mul_mod_self_left, Nat.mod_eq_of_lt hj]
  rw [h2]

theorem far_turn {L A i : Nat} (hL : 0 < L) (hi : i < L) : far L (A % L) ((A + i) % L) = i := by
  have h1 := Nat.mod_lt A hL
  have e : (A + i) % L = if A % L + i < L then A % L + i else A % L + i - L := by
    rw [Nat.add_mod, Nat.mod_eq_of_lt hi]
    split
    · exact Nat.mod_eq_of_lt (by omega)
    · rw [Nat.mod_eq_sub_mod (by omega)]; exact Nat.mod_eq_of_lt (by omega)
  rw [e]
  unfold far
  split <;> split <;> omega

/-- After the first i points: dd u is the least distance of a point of u among them, or L. -/
def Near (Z : Nat → Nat) (L st i : Nat) (dd : Nat → Nat) : Prop :=
  ∀ u, (dd u = L ∧ ∀ j, j < i → Z j ≠ u) ∨ ((∃ j, j < i ∧ Z j = u ∧ far L st j = dd u) ∧ ∀ j, j < i → Z j = u → dd u ≤ far L st j)

theorem near_zero (Z : Nat → Nat) (L st : Nat) : Near Z L st 0 (fun _ => L) := fun _ => .inl ⟨rfl, fun j hj => by omega⟩

theorem near_le {Z : Nat → Nat} {L st i : Nat} {dd : Nat → Nat} (hs : st < L) (hi : i ≤ L) (h : Near Z L st i dd) (u : Nat) : dd u ≤ L := by
  rcases h u with ⟨e, _⟩ | ⟨⟨j, hj, _, e⟩, _⟩
  · omega
  · have := far_lt (j := j) hs (by omega); omega

theorem near_keep {Z : Nat → Nat} {L st i : Nat} {dd : Nat → Nat} (hs : st < L) (hi : i < L) (h : Near Z L st i dd) (hd : ¬ far L st i < dd (Z i)) : Near Z L st (i + 1) dd := by
  intro u
  rcases h u with ⟨e, hn⟩ | ⟨⟨j, hj, hz, e⟩, hn⟩
  · by_cases hu : Z i = u
    · subst hu; have := far_lt hs hi; omega
    · exact .inl ⟨e, fun j hj => by by_cases hji : j = i; (· subst hji; exact hu); exact hn j (by omega)⟩
  · refine .inr ⟨⟨j, by omega, hz, e⟩, fun j' hj' hz' => ?_⟩
    by_cases hji : j' = i
    · subst hji; rw [hz'] at hd; omega
    · exact hn j' (by omega) hz'

theorem near_put {Z : Nat → Nat} {L st i : Nat} {dd : Nat → Nat} (h : Near Z L st i dd) (hd : far L st i < dd (Z i)) : Near Z L st (i + 1) (fun u => if u = Z i then far L st i else dd u) := by
  intro u
  by_cases hu : u = Z i
  · subst hu
    simp only [if_true]
    refine .inr ⟨⟨i, by omega, rfl, rfl⟩, fun j hj hz => ?_⟩
    by_cases hji : j = i
    · subst hji; omega
    · rcases h (Z i) with ⟨_, hn⟩ | ⟨_, hn⟩
      · exact absurd hz (hn j (by omega))
      · have := hn j (by omega) hz; omega
  · simp only [if_neg hu]
    rcases h u with ⟨e, hn⟩ | ⟨⟨j, hj, hz, e⟩, hn⟩
    · exact .inl ⟨e, fun j hj => by by_cases hji : j = i; (· subst hji; exact fun h => hu h.symm); exact hn j (by omega)⟩
    · refine .inr ⟨⟨j, by omega, hz, e⟩, fun j' hj' hz' => ?_⟩
      by_cases hji : j' = i
      · subst hji; exact absurd hz'.symm hu
      · exact hn j' (by omega) hz'

/-- The whole turn: dd u is the place of u's first point on the turn from A on. -/
theorem near_first {Z : Nat → Nat} {L A N : Nat} {dd : Nat → Nat} (hL : 0 < L) (hall : ∀ u, u < N → ∃ i, i < L ∧ Z i = u) (h : Near Z L (A % L) L dd) :
    ∀ u, u < N → dd u < L ∧ turn Z L A (dd u) = u ∧ ∀ i, i < dd u → turn Z L A i ≠ u := by
  intro u hu
  rcases h u with ⟨_, hn⟩ | ⟨⟨j, hj, hz, e⟩, hn⟩
  · obtain ⟨i, hi, hz⟩ := hall u hu
    exact absurd hz (hn i hi)
  · have hlt := far_lt (Nat.mod_lt A hL) hj
    refine ⟨by omega, by rw [← e, turn_far hL hj, hz], fun i hi ht => ?_⟩
    have hq := Nat.mod_lt (A + i) hL
    have := hn ((A + i) % L) hq ht
    rw [far_turn hL (by omega)] at this
    omega

theorem cnt_filter (B : Nat → Bool) : ∀ n, cnt B n = ((List.range n).filter B).length
  | 0 => rfl
  | n + 1 => by
    rw [List.range_succ, List.filter_append, List.length_append, ← cnt_filter B n]
    simp only [cnt]
    by_cases h : B n = true <;> simp [h]

/-- The rank of u. -/
def rank (dd : Nat → Nat) (N u : Nat) : Nat := cnt (fun v => decide (dd v < dd u)) N

section
variable {Z : Nat → Nat} {L A N : Nat} {dd : Nat → Nat}

theorem rank_spot (hL : 0 < L) (hlt : ∀ i, i < L → Z i < N) (hd : ∀ u, u < N → dd u < L ∧ turn Z L A (dd u) = u ∧ ∀ i, i < dd u → turn Z L A i ≠ u) {u : Nat} (hu : u < N) : (Pl.D (turn Z L A) L)[rank dd N u]? = some u := by
  unfold rank
  rw [cnt_filter, Pl.rank_is (turn_lt hL hlt) hd hu]
  exact Pl.rank_at hd hu

theorem rank_inj (hL : 0 < L) (hlt : ∀ i, i < L → Z i < N) (hd : ∀ u, u < N → dd u < L ∧ turn Z L A (dd u) = u ∧ ∀ i, i < dd u → turn Z L A i ≠ u) {u v : Nat} (hu : u < N) (hv : v < N) (h : rank dd N u = rank dd N v) : u = v := by
  have h1 := rank_spot hL hlt hd hu
  rw [h, rank_spot hL hlt hd hv] at h1
  simpa using h1.symm

/-- What the last loop leaves: place i holds the i-th node's name. -/
theorem rank_end (hL : 0 < L) (hlt : ∀ i, i < L → Z i < N) (hd : ∀ u, u < N → dd u < L ∧ turn Z L A (dd u) = u ∧ ∀ i, i < dd u → turn Z L A i ≠ u) {K : Nat} (hK : K ≤ N) (hF : (Pl.D (turn Z L A) L).length = N) {S O : Nat → ByteArray}
    (hO : ∀ u, u < N → rank dd N u < K → O (rank dd N u) = S u) {i : Nat} (hi : i < K) : O i = S (((Pl.D (turn Z L A) L).take K).getD i 0) := by
  have hi' : i < (Pl.D (turn Z L A) L).length := by omega
  obtain ⟨u, hu⟩ : ∃ u, (Pl.D (turn Z L A) L)[i]? = some u := ⟨_, List.getElem?_eq_getElem hi'⟩
  have huN : u < N := by
    obtain ⟨j, hj, e⟩ := (Pl.mem_D (turn Z L A) u L).1 (List.mem_of_getElem? hu)
    rw [← e]; exact turn_lt hL hlt j hj
  have hr : rank dd N u = i := by
    have h1 := rank_spot hL hlt hd huN
    exact ((List.getElem?_inj hi' (Pl.D_nodup _ _)).1 (hu.trans h1.symm)).symm
  have := hO u huN (by omega)
  rw [hr] at this
  rw [this, List.getD_eq_getElem?_getD, List.getElem?_take, if_pos hi, hu]
  rfl
end

set_option maxHeartbeats 800000 in
theorem model_few (w : World) (a0 a2 : Option Addr) (N c0 L c2 : Nat) (arc k : Int) (hk : k < 1) :
    Calls Try.prog 15 #[.slice a0 N c0, .slice a2 L c2, .int .i64 arc, .int .i64 k] w fun e w' => e = .returned (.slice none 0 0) ∧ w' = w := by
  go_enter Try.func15, Try.ntmps15
  go_wp2
  go_ret
  exact ⟨rfl, rfl⟩

set_option maxHeartbeats 4000000 in
theorem model_any (w : World) (a0 a2 : Option Addr) (N c0 L c2 A K : Nat) (S : Nat → ByteArray) (Z : Nat → Nat) (h0 : Cells w a0 N fun i => .string (S i)) (h2 : Cells w a2 L fun i => .int .u32 (Z i : Nat))
    (hK1 : 1 ≤ K) (hKN : K ≤ N) (hN : N ≤ 4096) (hL : L ≤ 131072) (hA : (A : Int) + L ≤ 9223372036854775807) (hlt : ∀ i, i < L → Z i < N) (hall : ∀ u, u < N → ∃ i, i < L ∧ Z i = u) :
    Calls Try.prog 15 #[.slice a0 N c0, .slice a2 L c2, .int .i64 A, .int .i64 K] w fun e w' => Arc w S ((Pl.D (turn Z L A) L).take K) e w' := by
  obtain ⟨i0, hi, hz0, hz1, hz2⟩ := info_parts Try.info3
  obtain ⟨j0, hj, hy0, hy1, hy2⟩ := info_parts Try.info9
  have hby : i0.bytes * N ≤ 281474976710656 := by rw [hz2]; omega
  have hml : N ≤ maxLen := by unfold maxLen; omega
  have hbz : j0.bytes * K ≤ 281474976710656 := by rw [hy2]; omega
  have hmz : K ≤ maxLen := by unfold maxLen; omega
  have hgL : 0 < L := by obtain ⟨i, hi, _⟩ := hall 0 (by omega); omega
  have HD : Hid ((Pl.D (turn Z L A) L).length = N) := Pl.D_full (turn_lt hgL hlt) (turn_all hgL hall)
  have HA : Hid (∀ i, i < L → Z i < N) := hlt
  have HU : Hid (∀ u, u < N → ∃ i, i < L ∧ Z i = u) := hall
  obtain ⟨st, hst⟩ : ∃ st, st = A % L := ⟨_, rfl⟩
  have hsl : st < L := by rw [hst]; exact Nat.mod_lt _ hgL
  have hmod : (A : Int) % (L : Int) = (st : Int) := by rw [hst]; simp
  have HS := Hid.mk hst
  clear hall hlt hst
  go_enter Try.func15, Try.ntmps15
  go_wp2_with (at_make; refine wpList_make_full _ rfl _ _ 47 rfl w.heap.size 3 i0 _ 1 Try.underlying47 hi hz0 hz1 _ _ _ _ N rfl rfl rfl rfl hby hml (Nat.le_refl _) ?_)
  intro w1 hown hgrow
  have hB1 : Below w.heap.size w w1 := (Below.refl _ _).grown hgrow (Nat.le_refl _) (fun k e => by cases e)
  have hO1 := own_of_made hown
  clear hown hgrow hi hz0 hz1 hz2 hby hml
  go_wp2
  go_loopw [12] (fun i wr => ∃ k : Nat, k ≤ N ∧ i = .int .i64 k ∧ Own wr w.heap.size N (fun j => if j < k then .int .i64 (L : Nat) else .int .i64 0) ∧ Below w.heap.size w wr) (fun i _ => N - (intOf i).toNat)
  case atStart => exact ⟨0, Nat.zero_le _, rfl, hO1.congr fun j _ => by simp, hB1⟩
  case round =>
    obtain ⟨k, hk, rfl, hOk, hBk⟩ := hrel
    by_cases hlt : k < N
    · have hd : wr.cell? ⟨w.heap.size, k, none⟩ = some (.int .i64 0) := (hOk.1 k hlt).trans (by simp)
      have hf := hOk.2 k hlt
      go_wp2
      go_roundw
      case rel => exact ⟨k + 1, by omega, by go_num, hOk.put (f := fun _ => .int .i64 (L : Nat)), hBk.setCell (Nat.le_refl _) _⟩
      case measure => simp [intOf]; omega
    · have hO2 : Own wr w.heap.size N (fun _ => .int .i64 (L : Nat)) := hOk.congr fun j hj => by simp; omega
      obtain ⟨w2, rfl⟩ : ∃ w2 : World, w2 = wr := ⟨_, rfl⟩
      clear hOk hO1 hB1
      go_wp2
      go_loopw [13] (fun i wr => ∃ i' : Nat, ∃ dd : Nat → Nat, i' ≤ L ∧ i = .int .i64 i' ∧ Own wr w.heap.size N (fun u => .int .i64 (dd u : Nat)) ∧ Near Z L st i' dd ∧ Below w.heap.size w wr) (fun i _ => L - (intOf i).toNat)
      case atStart => exact ⟨0, fun _ => L, Nat.zero_le _, rfl, hO2, near_zero Z L st, hBk⟩
      case round =>
        obtain ⟨i, dd, hi', rfl, hOd, hnear, hBd⟩ := hrel
        have HN := Hid.mk hnear
        clear hnear hO2 hBk hlt hk
        by_cases hlt : i < L
        · obtain ⟨b, off, ha2, hc⟩ := h2 i hlt
          subst ha2
          have hck : wr.cell? ⟨b, off + i, none⟩ = some (.int .u32 (Z i : Nat)) := (hBd.cell (p := ⟨b, off + i, none⟩) (World.block_lt_of_cell? w _ hc)).trans hc
          have hzN := HA.out i hlt
          have hdl := near_le hsl hi' HN.out (Z i)
          have hd : wr.cell? ⟨w.heap.size, Z i, none⟩ = some (.int .i64 (dd (Z i) : Nat)) := hOd.1 (Z i) hzN
          have hf := hOd.2 (Z i) hzN
          clear hc
          by_cases his : i < st
          · by_cases hcmp : i + L - st < dd (Z i)
            · go_wp2
              go_roundw
              case rel =>
                have efar : far L st i = i + L - st := by unfold far; rw [if_pos his]
                refine ⟨i + 1, fun u => if u = Z i then far L st i else dd u, by omega, by go_num, (hOd.set (Z i) _).congr fun j _ => ?_, near_put HN.out (by omega), hBd.setCell (Nat.le_refl _) _⟩
                by_cases e : j = Z i
                · simp only [if_pos e, efar]; exact congrArg (Value.int .i64) (by omega)
                · simp only [if_neg e]
              case measure => simp [intOf]; omega
            · go_wp2
              go_roundw
              case rel =>
                have efar : far L st i = i + L - st := by unfold far; rw [if_pos his]
                exact ⟨i + 1, dd, by omega, by go_num, hOd, near_keep hsl hlt HN.out (by omega), hBd⟩
              case measure => simp [intOf]; omega
          · by_cases hcmp : i - st < dd (Z i)
            · go_wp2
              go_roundw
              case rel =>
                have efar : far L st i = i - st := by unfold far; rw [if_neg his]
                refine ⟨i + 1, fun u => if u = Z i then far L st i else dd u, by omega, by go_num, (hOd.set (Z i) _).congr fun j _ => ?_, near_put HN.out (by omega), hBd.setCell (Nat.le_refl _) _⟩
                by_cases e : j = Z i
                · simp only [if_pos e, efar]; exact congrArg (Value.int .i64) (by omega)
                · simp only [if_neg e]
              case measure => simp [intOf]; omega
            · go_wp2
              go_roundw
              case rel =>
                have efar : far L st i = i - st := by unfold far; rw [if_neg his]
                exact ⟨i + 1, dd, by omega, by go_num, hOd, near_keep hsl hlt HN.out (by omega), hBd⟩
              case measure => simp [intOf]; omega
        · have e : i = L := by omega
          have HF : Hid (∀ u, u < N → dd u < L ∧ turn Z L A (dd u) = u ∧ ∀ i, i < dd u → turn Z L A i ≠ u) := by
            have h := HN.out
            rw [HS.out, e] at h
            exact near_first hgL HU.out h
          obtain ⟨w3, rfl⟩ : ∃ w3 : World, w3 = wr := ⟨_, rfl⟩
          clear HN e
          have hs3 := World.block_lt_of_cell? w3 _ (hOd.1 0 (by omega))
          go_wp2_with (at_make; refine wpList_make_full _ rfl _ _ 22 rfl w3.heap.size 9 j0 _ 1 Try.underlying22 hj hy0 hy1 _ _ _ _ K rfl rfl rfl rfl hbz hmz (Nat.le_refl _) ?_)
          intro w4 hown hgrow
          have hB4 : Below w3.heap.size w3 w4 := (Below.refl _ _).grown hgrow (Nat.le_refl _) (fun k e => by cases e)
          have hOo := own_of_made hown
          have hOd4 := hOd.below hB4
          have hB14 : Below w.heap.size w w4 := hBd.trans (hB4.mono (by omega))
          clear hown hgrow hj hy0 hy1 hy2 hbz hmz hB4 hOd hBd
          generalize w3.heap.size = go at *
          clear w3
          go_wp2
          go_loopw [17] (fun i wr => ∃ u : Nat, ∃ O : Nat → ByteArray, u ≤ N ∧ i = .int .i64 u ∧ Own wr go K (fun j => .string (O j)) ∧ Own wr w.heap.size N (fun u => .int .i64 (dd u : Nat)) ∧ (∀ u', u' < u → rank dd N u' < K → O (rank dd N u') = S u') ∧ Below w.heap.size w wr) (fun i _ => N - (intOf i).toNat)
          case atStart => exact ⟨0, fun _ => ⟨#[]⟩, Nat.zero_le _, rfl, hOo, hOd4, fun u' hu' => by omega, hB14⟩
          case round =>
            obtain ⟨u, O, hu, rfl, hO5, hD5, hR5, hB5⟩ := hrel
            have HR := Hid.mk hR5
            clear hR5 hOo hOd4 hB14
            by_cases hlt : u < N
            · obtain ⟨w5, rfl⟩ : ∃ w5 : World, w5 = wr := ⟨_, rfl⟩
              go_wp2
              go_loopw [18, 19] (fun t i wr => ∃ v : Nat, v ≤ N ∧ i = .int .i64 v ∧ t = .int .i64 (cnt (fun v => decide (dd v < dd u)) v : Nat) ∧ Own wr go K (fun j => .string (O j)) ∧ Own wr w.heap.size N (fun u => .int .i64 (dd u : Nat)) ∧ Below w.heap.size w wr) (fun _ i _ => N - (intOf i).toNat)
              case atStart => exact ⟨0, Nat.zero_le _, rfl, rfl, hO5, hD5, hB5⟩
              case round =>
                obtain ⟨v, hv, rfl, rfl, hO6, hD6, hB6⟩ := hrel
                clear hO5 hD5 hB5
                have hcl := cnt_le (fun v => decide (dd v < dd u)) v
                by_cases hvl : v < N
                · have hdv : wr.cell? ⟨w.heap.size, v, none⟩ = some (.int .i64 (dd v : Nat)) := hD6.1 v hvl
                  have hdu : wr.cell? ⟨w.heap.size, u, none⟩ = some (.int .i64 (dd u : Nat)) := hD6.1 u hlt
                  have hcs : cnt (fun v => decide (dd v < dd u)) (v + 1) = cnt (fun v => decide (dd v < dd u)) v + (if decide (dd v < dd u) then 1 else 0) := rfl
                  have HC := Hid.mk hcs
                  clear hcs
                  generalize cnt (fun v => decide (dd v < dd u)) v = cv at *
                  by_cases hcmp : dd v < dd u
                  · go_wp2
                    go_region
                    go_wp2
                    go_roundw
                    case rel => exact ⟨v + 1, by omega, by go_num, by rw [HC.out]; simp [hcmp], hO6, hD6, hB6.drew⟩
                    case measure => simp [intOf]; omega
                  · go_wp2
                    go_region
                    go_wp2
                    go_roundw
                    case rel => exact ⟨v + 1, by omega, by go_num, by rw [HC.out]; simp [hcmp], hO6, hD6, hB6.drew⟩
                    case measure => simp [intOf]; omega
                · have hcr : cnt (fun v => decide (dd v < dd u)) v = rank dd N u := by unfold rank; rw [show v = N by omega]
                  rw [hcr] at hcl ⊢
                  clear hcr
                  generalize hrk : rank dd N u = rk at *
                  have HK := Hid.mk hrk
                  clear hrk
                  have HQ : Hid (∀ v, v < N → rank dd N v = rk → v = u) := fun v hv h => rank_inj hgL HA.out HF.out (A := A) hv hlt (h.trans HK.out.symm)
                  obtain ⟨b, off, ha0, hc⟩ := h0 u hlt
                  subst ha0
                  have hck : wr.cell? ⟨b, off + u, none⟩ = some (.string (S u)) := (hB6.cell (p := ⟨b, off + u, none⟩) (World.block_lt_of_cell? w _ hc)).trans hc
                  clear hc
                  by_cases hrK : rk < K
                  · have hor : wr.cell? ⟨go, rk, none⟩ = some (.string (O rk)) := hO6.1 rk hrK
                    have hof := hO6.2 rk hrK
                    go_wp2
                    go_roundw
                    case rel =>
                      refine ⟨u + 1, fun j => if j = rk then S u else O j, by omega, by go_num, (hO6.set rk _).congr fun j _ => ?_, hD6.other (g' := go) (by omega) _ _, ?_, hB6.setCell (p := ⟨go, rk, none⟩) (by simp only; omega) _⟩
                      · by_cases e : j = rk <;> simp [e]
                      · intro u' hu' hr'
                        by_cases e : u' = u
                        · subst e; rw [HK.out]; simp
                        · have hne : ¬ rank dd N u' = rk := fun h => e (HQ.out u' (by omega) h)
                          simp only [if_neg hne]
                          exact HR.out u' (by omega) hr'
                    case measure => simp [intOf]; omega
                  · go_wp2
                    go_roundw
                    case rel =>
                      refine ⟨u + 1, O, by omega, by go_num, hO6, hD6, ?_, hB6⟩
                      intro u' hu' hr'
                      by_cases e : u' = u
                      · subst e; rw [HK.out] at hr'; omega
                      · exact HR.out u' (by omega) hr'
                    case measure => simp [intOf]; omega
            · go_wp2
              go_ret
              have hl : ((Pl.D (turn Z L A) L).take K).length = K := by rw [List.length_take, HD.out]; omega
              refine ⟨some ⟨go, 0, none⟩, K, by rw [hl]; rfl, rfl, ?_, hB5⟩
              rw [hl]
              exact hO5.cells fun j hj => by rw [rank_end hgL HA.out HF.out hKN HD.out (S := S) (O := O) (fun u' hu' => HR.out u' (by omega)) hj]

/-- 'zzNearestPointModel', whatever is asked for. -/
theorem model_u (w : World) (a0 a2 : Option Addr) (N c0 L c2 : Nat) (S : Nat → ByteArray) (Z : Nat → Nat) (arc n : Int) (h0 : Cells w a0 N fun i => .string (S i)) (h2 : Cells w a2 L fun i => .int .u32 (Z i : Nat))
    (hN : N ≤ 4096) (hL : L ≤ 131072) (ha : 1 ≤ rep N n → 0 ≤ arc ∧ arc + L ≤ 9223372036854775807) (hlt : ∀ i, i < L → Z i < N) (hall : ∀ u, u < N → ∃ i, i < L ∧ Z i = u) :
    Calls Try.prog 15 #[.slice a0 N c0, .slice a2 L c2, .int .i64 arc, .int .i64 (rep N n)] w fun e w' => ArcU w S (decide (rep N n < 1)) (nodesOf Z L N arc n) e w' := by
  by_cases hk : rep N n < 1
  · refine (model_few w a0 a2 N c0 L c2 arc (rep N n) hk).mono ?_
    rintro e w' ⟨rfl, rfl⟩
    have e0 : nodesOf Z L N arc n = [] := by unfold nodesOf; rw [show (rep N n).toNat = 0 by omega]; rfl
    rw [e0]
    exact ⟨none, 0, rfl, by simp [hk], fun i hi => absurd hi (by simp), Below.refl _ _⟩
  · obtain ⟨hA0, hA1⟩ := ha (by omega)
    have hb := rep_le N n
    unfold nodesOf
    obtain ⟨A, rfl⟩ := Int.eq_ofNat_of_zero_le hA0
    have hd : decide (rep N n < 1) = false := by simp [hk]
    rw [hd]
    obtain ⟨K, hKe⟩ := Int.eq_ofNat_of_zero_le (show 0 ≤ rep N n by omega)
    rw [hKe] at hb hk ⊢
    refine (model_any w a0 a2 N c0 L c2 A K S Z h0 h2 (by omega) (by omega) hN hL hA1 hlt hall).mono ?_
    rintro e w' ⟨a, c, rfl, h1, h2, h3⟩
    exact ⟨a, c, rfl, h1, h2, h3⟩

end Go.Proofs.Qxb6602855a
