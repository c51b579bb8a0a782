import Derived.Test.Qxb6602855aRing
import Derived.Test.Qxb6602855aPlain
import Derived.Deep.RegionLaw
import Derived.Deep.Light
namespace Go.Proofs.Qxb6602855a
open Go.RowKit

set_option maxHeartbeats 800000 in
theorem arc_few (w : World) (r g : Nat) (a0 : Option Addr) (N c0 : Nat) (vn : Int) (L : Nat) (P V : Nat → Int) (Z : Nat → Nat) (hR : IsRing w r g a0 N c0 vn L P V Z) (arc n : Int) (hn : n < 1 ∨ N = 0) (hN : N ≤ 4096) :
    Calls Try.prog 14 #[.pointer (some ⟨r, 0, none⟩), .int .i64 arc, .int .i64 n] w fun e w' => e = .returned (.slice none 0 0) ∧ w' = w := by
  have hc0 := hR.nodes
  have hd : (if (N : Int) < n then (N : Int) else n) < 1 := by split <;> omega
  go_enter Try.func14, Try.ntmps14
  go_wp2
  all_goals (go_ret; exact ⟨rfl, rfl⟩)

/-- The node of the t-th point met from point arc on. -/
def turn (Z : Nat → Nat) (L arc : Nat) (t : Nat) : Nat := Z ((arc + t) % L)

def Arc (w : World) (S : Nat → ByteArray) (l : List Nat) (e : Ending) (w' : World) : Prop :=
  ∃ a c, e = .returned (.slice a l.length c) ∧ a.isNone = false ∧ Cells w' a l.length (fun i => .string (S (l.getD i 0))) ∧ Below w.heap.size w w'

theorem Hid.mk {p : Prop} (h : p) : Hid p := h

/-- The cell behind the last element is there and may be written, in the world in which the append is made. -/
theorem spare_one {wr : World} {G K m gl z : Nat} {F : Nat → Value} {v : Value} (h : Own wr G K F) (hm : m < K) (hne : G ≠ gl) (O1 O2 : Obj) (x : Value) :
    ∀ j, j < [x].length → ((((wr.setCell ⟨gl, z, none⟩ v).alloc O1).alloc O2).drew.drew.cell? ⟨G, 0 + m * 1 + j, none⟩).isSome = true ∧ (((wr.setCell ⟨gl, z, none⟩ v).alloc O1).alloc O2).drew.drew.frozen? ⟨G, 0 + m * 1 + j, none⟩ = false := by
  intro j hj
  obtain rfl : j = 0 := by simpa using hj
  have hs := World.block_lt_of_cell? wr _ (h.1 m hm)
  simp only [Nat.zero_add, Nat.mul_one, Nat.add_zero]
  show ((((wr.setCell ⟨gl, z, none⟩ v).alloc O1).alloc O2).cell? ⟨G, m, none⟩).isSome = true ∧ (((wr.setCell ⟨gl, z, none⟩ v).alloc O1).alloc O2).frozen? ⟨G, m, none⟩ = false
  rw [World.cell?_alloc_past _ _ _ (by simp; simp at hs; omega), World.cell?_alloc_past _ _ _ (by simpa using hs), World.frozen?_alloc_past _ _ _ (by simp; simp at hs; omega), World.frozen?_alloc_past _ _ _ (by simpa using hs), World.frozen?_setCell,
    World.cell?_setCell_other _ _ _ _ (by simp only [ne_eq, Addr.mk.injEq]; omega), h.1 m hm]
  exact ⟨rfl, h.2 m hm⟩

theorem news_one (wr : World) (gl z : Nat) (v : Value) (O1 : Obj) (x : Value) (e : TypeId) :
    ∀ j u, [x][j]? = some u → (((wr.setCell ⟨gl, z, none⟩ v).alloc O1).alloc (.cells #[x] e)).drew.drew.cell? ((⟨wr.heap.size + 1, 0, none⟩ : Addr).add j) = some u := by
  intro j u hj
  match j, hj with
  | 0, hj =>
    simp at hj
    subst hj
    show (((wr.setCell ⟨gl, z, none⟩ v).alloc O1).alloc (.cells #[x] e)).cell? ⟨wr.heap.size + 1, 0, none⟩ = some x
    rw [World.cell?_alloc_at _ _ _ _ (by simp)]
    rfl


theorem Own.other {w : World} {g n g' : Nat} {f : Nat → Value} (h : Own w g n f) (hne : g' ≠ g) (k : Nat) (v : Value) : Own (w.setCell ⟨g', k, none⟩ v) g n f :=
  ⟨fun j hj => by rw [World.cell?_setCell_other _ _ _ _ (by simp only [ne_eq, Addr.mk.injEq]; omega)]; exact h.1 j hj, fun j hj => by rw [World.frozen?_setCell]; exact h.2 j hj⟩

theorem Own.alloc {w : World} {g n : Nat} {f : Nat → Value} (h : Own w g n f) (o : Obj) : Own (w.alloc o) g n f := h.below ((Below.refl _ _).alloc (Nat.le_refl _) _)

/-- The room of a row that was made with length 0. -/
theorem own_spare {w : World} {base e g cap : Nat} {xs : List Value} (h : w.ownsRow base e 1 (.slice (some ⟨g, 0, none⟩) 0 cap) 0 xs) : (∃ F, Own w g cap F) ∧ g < w.heap.size := by
  rcases h.2 with ⟨h', _⟩ | ⟨g', cap', cur, h', _, hg, _, _, hsz, _⟩
  · simp at h'
  · simp only [Value.slice.injEq, Option.some.injEq, Addr.mk.injEq, and_true, true_and] at h'
    obtain ⟨rfl, rfl⟩ := h'
    refine ⟨⟨fun j => (cur[j]?).getD (.bool false), fun j hj => ?_, fun j _ => frozen_of_row w g j cur e hg⟩, (Array.getElem?_eq_some_iff.1 hg).1⟩
    rw [cell_of_row w g j cur e (0, 0) hg]
    simp [Array.getElem?_eq_getElem (show j < cur.size by omega)]

theorem turn_lt {Z : Nat → Nat} {L N arc : Nat} (hL : 0 < L) (h : ∀ i, i < L → Z i < N) : ∀ i, i < L → turn Z L arc i < N := fun _ _ => h _ (Nat.mod_lt _ hL)

theorem turn_all {Z : Nat → Nat} {L N arc : Nat} (hL : 0 < L) (h : ∀ u, u < N → ∃ i, i < L ∧ Z i = u) : ∀ u, u < N → ∃ i, i < L ∧ turn Z L arc i = u := by
  intro u hu
  obtain ⟨j, hj, rfl⟩ := h u hu
  refine ⟨(j + (L - arc % L)) % L, Nat.mod_lt _ hL, ?_⟩
  unfold turn
  have h1 := Nat.mod_lt arc hL
  have h2 : (arc + (j + (L - arc % L)) % L) % L = j := by
    rw [Nat.add_mod, Nat.mod_mod, ← Nat.add_mod]
    have h3 := Nat.div_add_mod arc L
    have : arc + (j + (L - arc % L)) = j + L * (arc / L + 1) := by rw [Nat.mul_add, Nat.mul_one]; omega
    rw [this, Nat.add_mul_mod_self_left, Nat.mod_eq_of_lt hj]
  rw [h2]

/-- A point whose node is listed already. -/
theorem rel_hit {w wr : World} {Z : Nat → Nat} {L arc t gl G K N : Nat} {F : Nat → Value} (O : Obj) (hd : decide (turn Z L arc t ∈ Pl.D (turn Z L arc) t) = true)
    (hOF : Own wr G K F) (hOl : Own wr gl N (fun u => .bool (decide (u ∈ Pl.D (turn Z L arc) t)))) (hB : Below w.heap.size w wr) :
    Pl.D (turn Z L arc) (t + 1) = Pl.D (turn Z L arc) t ∧ Own (wr.alloc O).drew G K F ∧ Own (wr.alloc O).drew gl N (fun u => .bool (decide (u ∈ Pl.D (turn Z L arc) t))) ∧ Below w.heap.size w (wr.alloc O).drew :=
  ⟨Pl.D_hit (of_decide_eq_true hd), hOF.alloc O, hOl.alloc O, (hB.alloc hB.size O).drew⟩

/-- A point of a new node. -/
theorem rel_new {w wr : World} {Z : Nat → Nat} {L arc t gl G K N : Nat} {F : Nat → Value} {S : Nat → ByteArray} (O1 O2 : Obj) (hd : decide (turn Z L arc t ∈ Pl.D (turn Z L arc) t) = false)
    (hOF : Own wr G K F) (hF : ∀ j, j < (Pl.D (turn Z L arc) t).length → F j = .string (S ((Pl.D (turn Z L arc) t).getD j 0)))
    (hOl : Own wr gl N (fun u => .bool (decide (u ∈ Pl.D (turn Z L arc) t)))) (hB : Below w.heap.size w wr) (hG : w.heap.size ≤ G) (hg : w.heap.size ≤ gl) (hne : gl ≠ G) {W : World}
    (hW : W = (((wr.setCell ⟨gl, turn Z L arc t, none⟩ (.bool true)).alloc O1).alloc O2).drew.drew.setCells G (Pl.D (turn Z L arc) t).length [.string (S (turn Z L arc t))]) :
    (Pl.D (turn Z L arc) (t + 1)).length = (Pl.D (turn Z L arc) t).length + 1 ∧ (∃ F', Own W G K F' ∧ (∀ j, j < (Pl.D (turn Z L arc) (t + 1)).length → F' j = .string (S ((Pl.D (turn Z L arc) (t + 1)).getD j 0)))) ∧
      Own W gl N (fun u => .bool (decide (u ∈ Pl.D (turn Z L arc) (t + 1)))) ∧ Below w.heap.size w W := by
  subst hW
  have hD : Pl.D (turn Z L arc) (t + 1) = Pl.D (turn Z L arc) t ++ [turn Z L arc t] := Pl.D_new (of_decide_eq_false hd)
  refine ⟨by rw [hD]; simp, ⟨_, (((hOF.other hne (turn Z L arc t) (.bool true)).alloc O1).alloc O2).set (Pl.D (turn Z L arc) t).length (.string (S (turn Z L arc t))), ?_⟩, ?_, ?_⟩
  · intro j hj
    rw [hD] at hj ⊢
    simp at hj
    by_cases e : j = (Pl.D (turn Z L arc) t).length
    · subst e; simp
    · rw [if_neg e, hF j (by omega)]
      simp [List.getElem?_append_left (show j < (Pl.D (turn Z L arc) t).length by omega)]
  · refine ((((hOl.set (turn Z L arc t) (.bool true)).alloc O1).alloc O2).other (Ne.symm hne) (Pl.D (turn Z L arc) t).length (.string (S (turn Z L arc t)))).congr fun j _ => ?_
    rw [hD]
    by_cases e : j = turn Z L arc t <;> simp [e]
  · have h1 : Below w.heap.size w ((((wr.setCell ⟨gl, turn Z L arc t, none⟩ (.bool true)).alloc O1).alloc O2).drew.drew) :=
      ((((hB.setCell hg _).alloc (by simp; exact hB.size) O1).alloc (by simp; have := hB.size; omega) O2).drew).drew
    exact h1.setCell hG _

theorem arc_end {w wr : World} {Z : Nat → Nat} {L arc t G K : Nat} {F : Nat → Value} {S : Nat → ByteArray} (ht : t ≤ L) (hl : (Pl.D (turn Z L arc) t).length = K)
    (hOF : Own wr G K F) (hF : ∀ j, j < (Pl.D (turn Z L arc) t).length → F j = .string (S ((Pl.D (turn Z L arc) t).getD j 0))) (hB : Below w.heap.size w wr) :
    Arc w S ((Pl.D (turn Z L arc) L).take K) (.returned (.slice (some ⟨G, 0, none⟩) (Pl.D (turn Z L arc) t).length K)) wr := by
  have h := Pl.D_done ht hl
  rw [← h]
  exact ⟨_, _, rfl, rfl, (show Own wr G (Pl.D (turn Z L arc) t).length F by rw [hl]; exact hOF).cells hF, hB⟩

set_option maxHeartbeats 1600000 in
theorem arc_any (w : World) (r g : Nat) (a0 : Option Addr) (N c0 : Nat) (vn : Int) (L : Nat) (P V : Nat → Int) (Z : Nat → Nat) (S : Nat → ByteArray) (hR : IsRing w r g a0 N c0 vn L P V Z) (arc : Nat) (n : Int) (K : Nat)
    (hmin : (if (N : Int) < n then (N : Int) else n) = (K : Int)) (hK1 : 1 ≤ K) (hKN : K ≤ N) (hN : N ≤ 4096) (hL : L ≤ 131072) (h0 : Cells w a0 N fun i => .string (S i))
    (harc2 : (arc : Int) + L ≤ 9223372036854775807) (hlt : ∀ i, i < L → Z i < N) (hall : ∀ u, u < N → ∃ i, i < L ∧ Z i = u) :
    Calls Try.prog 14 #[.pointer (some ⟨r, 0, none⟩), .int .i64 arc, .int .i64 n] w fun e w' => Arc w S ((Pl.D (turn Z L arc) L).take K) e w' := by
  have hc0 := hR.nodes
  obtain ⟨i0, hi, hz0, hz1, hz2⟩ := info_parts Try.info9
  obtain ⟨j0, hj, hy0, hy1, hy2⟩ := info_parts Try.info4
  have hby : i0.bytes * K ≤ 281474976710656 := by rw [hz2]; omega
  have hml : K ≤ maxLen := by unfold maxLen; omega
  have hbz : j0.bytes * N ≤ 281474976710656 := by rw [hy2]; omega
  have hmz : N ≤ maxLen := by unfold maxLen; omega
  have hr := World.block_lt_of_cell? w _ hc0
  have hgL : 0 < L := by obtain ⟨i, hi, _⟩ := hall 0 (by omega); omega
  have HD : Hid ((Pl.D (turn Z L arc) L).length = N) := Pl.D_full (turn_lt hgL hlt) (turn_all hgL hall)
  have HA : Hid (∀ i, i < L → Z i < N) := hlt
  have HR : Hid (IsRing w r g a0 N c0 vn L P V Z) := hR
  have H0 : Hid (Cells w a0 N fun i => .string (S i)) := h0
  clear hall hlt hR h0
  go_enter Try.func14, Try.ntmps14
  go_wp2_with (at_make; refine wpList_make_own _ rfl _ _ 22 rfl w.heap.size 9 i0 _ 1 Try.underlying22 hi hz0 hz1 _ _ _ K rfl rfl rfl hby hml (Nat.le_refl _) ?_)
  intro w1 hown hgrow
  have hB1 : Below w.heap.size w w1 := (Below.refl _ _).grown hgrow (Nat.le_refl _) (fun k e => by cases e)
  have hc1 : w1.cell? ⟨r, 0, none⟩ = some (.slice a0 N c0) := (hB1.cell (p := ⟨r, 0, none⟩) hr).trans hc0
  obtain ⟨hO1, hs1⟩ := own_spare hown
  clear hc0 hown hgrow
  go_wp2_with (at_make; refine wpList_make_full _ rfl _ _ 38 rfl w1.heap.size 4 j0 _ 1 Try.underlying38 hj hy0 hy1 _ _ _ _ N rfl rfl rfl rfl hbz hmz (Nat.le_refl _) ?_)
  intro w2 hown2 hgrow2
  have hB2 : Below w1.heap.size w1 w2 := (Below.refl _ _).grown hgrow2 (Nat.le_refl _) (fun k e => by cases e)
  have hO2 := own_of_made hown2
  obtain ⟨F, hO1⟩ := hO1
  have hO3 := hO1.below hB2
  have hB3 : Below w.heap.size w w2 := hB1.trans (hB2.mono (by omega))
  clear hown2 hgrow2 hc1 hz0 hz2 hj hy0 hy1 hy2 hby hml hbz hmz hB1 hO1 hB2
  generalize w1.heap.size = gl at *
  clear w1
  go_wp2
  go_loopw [7, 9] (fun v i wr => ∃ t : Nat, ∃ F : Nat → Value, t ≤ L ∧ i = .int .i64 ((arc : Int) + t) ∧ (Pl.D (turn Z L arc) t).length ≤ K ∧ v = .slice (some ⟨w.heap.size, 0, none⟩) (Pl.D (turn Z L arc) t).length K
      ∧ Own wr w.heap.size K F ∧ (∀ j, j < (Pl.D (turn Z L arc) t).length → F j = .string (S ((Pl.D (turn Z L arc) t).getD j 0))) ∧ Own wr gl N (fun u => .bool (decide (u ∈ Pl.D (turn Z L arc) t))) ∧ Below w.heap.size w wr)
    (fun _ i _ => (arc + L) - (intOf i).toNat)
  case atStart => exact ⟨0, F, Nat.zero_le _, by simp, Nat.zero_le _, rfl, hO3, fun j hj => by simp [Pl.D] at hj, hO2.congr fun j _ => by simp [Pl.D], hB3⟩
  case round =>
    obtain ⟨t, F, ht, rfl, hle, rfl, hOF, hF, hOl, hBk⟩ := hrel
    have HF : Hid (∀ j, j < (Pl.D (turn Z L arc) t).length → F j = .string (S ((Pl.D (turn Z L arc) t).getD j 0))) := hF
    clear hF
    by_cases hlt : (Pl.D (turn Z L arc) t).length < K
    · have htL : t < L := Pl.D_more HD.out hKN ht hlt
      obtain ⟨q, hq⟩ : ∃ q, q = (arc + t) % L := ⟨_, rfl⟩
      have hqL : q < L := by rw [hq]; exact Nat.mod_lt _ hgL
      have hr0 : wr.cell? ⟨r, 0, none⟩ = some (.slice a0 N c0) := (hBk.cell (p := ⟨r, 0, none⟩) hr).trans HR.out.nodes
      have hr2 : wr.cell? ⟨r, 2, none⟩ = some (.slice (some ⟨g, 0, none⟩) L L) := (hBk.cell (p := ⟨r, 2, none⟩) hr).trans HR.out.points
      have hp0 : wr.cell? ⟨g, q * 3, none⟩ = some (.int .u64 (P q)) := (hBk.cell (p := ⟨g, q * 3, none⟩) (World.block_lt_of_cell? w _ (HR.out.at0 q hqL))).trans (HR.out.at0 q hqL)
      have hp1 : wr.cell? ⟨g, q * 3 + 1, none⟩ = some (.int .u32 (Z q : Nat)) := (hBk.cell (p := ⟨g, q * 3 + 1, none⟩) (World.block_lt_of_cell? w _ (HR.out.at1 q hqL))).trans (HR.out.at1 q hqL)
      have hp2 : wr.cell? ⟨g, q * 3 + 2, none⟩ = some (.int .u32 (V q)) := (hBk.cell (p := ⟨g, q * 3 + 2, none⟩) (World.block_lt_of_cell? w _ (HR.out.at2 q hqL))).trans (HR.out.at2 q hqL)
      have hu := HA.out q hqL
      have HQ : Hid (Z q = turn Z L arc t) := by rw [hq]; rfl
      have hmod : ((arc : Int) + (t : Int)) % (L : Int) = (q : Int) := by rw [hq]; simp
      clear hq
      obtain ⟨b, off, ha0, hs0⟩ := H0.out (Z q) hu
      subst ha0
      have hs : wr.cell? ⟨b, off + Z q, none⟩ = some (.string (S (Z q))) := (hBk.cell (p := ⟨b, off + Z q, none⟩) (World.block_lt_of_cell? w _ hs0)).trans hs0
      have hl : wr.cell? ⟨gl, Z q, none⟩ = some (.bool (decide (Z q ∈ Pl.D (turn Z L arc) t))) := hOl.1 (Z q) hu
      have hlf := hOl.2 (Z q) hu
      have hbs := World.block_lt_of_cell? wr _ hs
      have hls := World.block_lt_of_cell? wr _ hl
      have hrs := World.block_lt_of_cell? wr _ hr0
      have hgs := World.block_lt_of_cell? wr _ hp0
      have hb0 := World.block_lt_of_cell? w _ hs0
      clear hs0
      go_wp2
      go_region
      cases hdec : decide (Z q ∈ Pl.D (turn Z L arc) t) with
      | true =>
        rw [hdec] at hl
        have HE : Hid (decide (Z q ∈ Pl.D (turn Z L arc) t) = true) := hdec
        clear hdec
        go_wp2
        go_roundw
        case rel =>
          rw [HQ.out] at HE
          obtain ⟨h1, h2, h3, h4⟩ := rel_hit (w := w) (.cells #[.int .u64 (P q), .int .u32 (Z q : Nat), .int .u32 (V q)] 44) HE.out hOF hOl hBk
          refine ⟨t + 1, F, by omega, by go_num, ?_⟩
          rw [h1]
          exact ⟨hle, rfl, h2, HF.out, h3, h4⟩
        case measure => simp [intOf]; omega
      | false =>
        rw [hdec] at hl
        have HE : Hid (decide (Z q ∈ Pl.D (turn Z L arc) t) = false) := hdec
        clear hdec
        have hroom : (Pl.D (turn Z L arc) t).length + 1 ≤ K := hlt
        have hspare := spare_one hOF hlt (by omega : w.heap.size ≠ gl) (z := Z q) (v := .bool true) (.cells #[.int .u64 (P q), .int .u32 (Z q : Nat), .int .u32 (V q)] 44) (.cells #[.string (S (Z q))] 9) (.string (S (Z q)))
        have hnews := news_one wr gl (Z q) (.bool true) (.cells #[.int .u64 (P q), .int .u32 (Z q : Nat), .int .u32 (V q)] 44) (.string (S (Z q))) 9
        have h1c : ∀ u ∈ [Value.string (S (Z q))], u.oneCell' = true := by simp [Value.oneCell']
        have Hsp := Hid.mk hspare
        have Hnw := Hid.mk hnews
        have H1c := Hid.mk h1c
        clear hspare hnews h1c
        go_wp2
        go_region_law (refine step_append_room rfl (.tmp 58) (.tmp 67) 22 rfl 9 i0 1 Try.underlying22 hi hz1 w.heap.size 0 _ K (by simp [Act.eval]) ⟨wr.heap.size + 1, 0, none⟩ 1 1 [.string (S (Z q))] (by simp [Act.eval]) rfl Hnw.out H1c.out hroom Hsp.out ?_)
        all_goals
          clear Hsp Hnw H1c
          go_wp2
          go_roundw
          case rel =>
            go_light
            rw [HQ.out] at HE ⊢
            obtain ⟨h1, ⟨F', h2, h3⟩, h4, h5⟩ := rel_new (w := w) (.cells #[.int .u64 (P q), .int .u32 (turn Z L arc t : Nat), .int .u32 (V q)] 44) (.cells #[.string (S (turn Z L arc t))] 9) HE.out hOF HF.out hOl hBk (Nat.le_refl _) (by omega) (by omega) rfl
            exact ⟨t + 1, F', by omega, by go_num, by omega, by rw [h1], h2, h3, h4, h5⟩
          case measure => simp [intOf]; omega
    · go_wp2
      go_ret
      exact arc_end ht (by omega) hOF HF.out hBk

theorem rep_le (N : Nat) (n : Int) : rep N n ≤ N := by
  unfold rep
  split
  · omega
  · split <;> omega

/-- 'ArcNodes', whatever is asked for: the first so many of the nodes met on one turn from arc on; nil where none is asked for. -/
def ArcU (w : World) (S : Nat → ByteArray) (b : Bool) (l : List Nat) (e : Ending) (w' : World) : Prop :=
  ∃ a c, e = .returned (.slice a l.length c) ∧ a.isNone = b ∧ Cells w' a l.length (fun i => .string (S (l.getD i 0))) ∧ Below w.heap.size w w'

/-- The nodes of arc. -/
def nodesOf (Z : Nat → Nat) (L N : Nat) (arc n : Int) : List Nat := (Pl.D (turn Z L arc.toNat) L).take (rep N n).toNat

theorem arc_u (w : World) (r g : Nat) (a0 : Option Addr) (N c0 : Nat) (vn : Int) (L : Nat) (P V : Nat → Int) (Z : Nat → Nat) (S : Nat → ByteArray) (hR : IsRing w r g a0 N c0 vn L P V Z) (arc n : Int)
    (hN : N ≤ 4096) (hL : L ≤ 131072) (h0 : Cells w a0 N fun i => .string (S i)) (ha : 1 ≤ rep N n → 0 ≤ arc ∧ arc + L ≤ 9223372036854775807) (hlt : ∀ i, i < L → Z i < N) (hall : ∀ u, u < N → ∃ i, i < L ∧ Z i = u) :
    Calls Try.prog 14 #[.pointer (some ⟨r, 0, none⟩), .int .i64 arc, .int .i64 n] w fun e w' => ArcU w S (decide (rep N n < 1)) (nodesOf Z L N arc n) e w' := by
  by_cases hk : rep N n < 1
  · have hn : n < 1 ∨ N = 0 := by
      unfold rep at hk
      split at hk
      · right; omega
      · split at hk
        · left; assumption
        · omega
    refine (arc_few w r g a0 N c0 vn L P V Z hR arc n hn hN).mono ?_
    rintro e w' ⟨rfl, rfl⟩
    have e0 : nodesOf Z L N arc n = [] := by unfold nodesOf; rw [show (rep N n).toNat = 0 by omega]; rfl
    rw [e0]
    exact ⟨none, 0, rfl, by simp [hk], fun i hi => absurd hi (by simp), Below.refl _ _⟩
  · obtain ⟨hA0, hA1⟩ := ha (by omega)
    have hb := rep_le N n
    have hmin : (if (N : Int) < n then (N : Int) else n) = ((rep N n).toNat : Int) := by
      by_cases c : (N : Int) < n
      · rw [if_pos c, rep_hi c]; omega
      · by_cases c1 : n < 1
        · rw [rep_lo (by omega) c1] at hk; omega
        · rw [if_neg c, rep_mid (by omega) (by omega)]; omega
    obtain ⟨A, rfl⟩ := Int.eq_ofNat_of_zero_le hA0
    refine (arc_any w r g a0 N c0 vn L P V Z S hR A n (rep N n).toNat hmin (by omega) (by omega) hN hL h0 hA1 hlt hall).mono ?_
    rintro e w' ⟨a, c, rfl, h1, h2, h3⟩
    exact ⟨a, c, rfl, by simp [hk, h1], h2, h3⟩

end Go.Proofs.Qxb6602855a
