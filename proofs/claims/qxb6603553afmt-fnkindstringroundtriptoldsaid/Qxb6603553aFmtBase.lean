import Derived.Test.Qxb6603553aFmtProg
import Derived.WalkKit
import Derived.WalkSpells
import Derived.Handy
import Derived.Below
import Derived.Lib.BufferRead
import Derived.Laws.IdiomStrings
namespace Go.Proofs.Qxb6603553aFmt
open Go.RowKit

theorem Hid.mk {p : Prop} (h : p) : Hid p := h

/-- It has answered some bool. -/
def SomeBool (e : Ending) : Prop := ∃ b, e = .returned (.bool b)
theorem SomeBool.mk (b : Bool) : SomeBool (.returned (.bool b)) := ⟨b, rfl⟩

/-- A row of the call's own: cell j of block g holds 'f j', and may be written. -/
def Own (w : World) (g n : Nat) (f : Nat → Value) : Prop :=
  (∀ j, j < n → w.cell? ⟨g, j, none⟩ = some (f j)) ∧ ∀ j, j < n → w.frozen? ⟨g, j, none⟩ = false

theorem own_of_made {w1 : World} {base e g n cap : Nat} {z : Value} (h : w1.ownsRow base e 1 (.slice (some ⟨g, 0, none⟩) n cap) n (madeCells #[z] n).toList) : Own w1 g n (fun _ => z) :=
  ⟨fun j hj => by rw [h.cellAt j (by omega), toList_madeCells_one]; simp [hj], fun j _ => h.frozenAt j⟩

theorem Own.congr {w : World} {g n : Nat} {f f' : Nat → Value} (h : Own w g n f) (e : ∀ j, j < n → f j = f' j) : Own w g n f' :=
  ⟨fun j hj => by rw [h.1 j hj, e j hj], h.2⟩

theorem Own.set {w : World} {g n : Nat} {f : Nat → Value} (h : Own w g n f) (k : Nat) (v : Value) : Own (w.setCell ⟨g, k, none⟩ v) g n (fun j => if j = k then v else f j) := by
  refine ⟨fun j hj => ?_, fun j hj => ?_⟩
  · by_cases e : j = k
    · subst e; rw [World.cell?_setCell_same _ _ _ (h.1 j hj)]; simp
    · rw [World.cell?_setCell_other _ _ _ _ (by simp only [ne_eq, Addr.mk.injEq]; omega)]; simp only [if_neg e]; exact h.1 j hj
  · rw [World.frozen?_setCell]; exact h.2 j hj

theorem Own.put {w : World} {g n k : Nat} {f : Nat → Value} {z : Value} (h : Own w g n (fun j => if j < k then f j else z)) : Own (w.setCell ⟨g, k, none⟩ (f k)) g n (fun j => if j < k + 1 then f j else z) := by
  refine (h.set k (f k)).congr fun j hj => ?_
  by_cases e : j = k
  · subst e; simp
  · rw [if_neg e]
    by_cases e' : j < k
    · rw [if_pos e', if_pos (by omega)]
    · rw [if_neg e', if_neg (by omega)]

theorem Own.below {w w' : World} {g n : Nat} {f : Nat → Value} (h : Own w g n f) (hb : Below w.heap.size w w') : Own w' g n f :=
  ⟨fun j hj => (hb.cell (p := ⟨g, j, none⟩) (World.block_lt_of_cell? w _ (h.1 j hj))).trans (h.1 j hj), fun j hj => (hb.frozen (p := ⟨g, j, none⟩) (World.block_lt_of_cell? w _ (h.1 j hj))).trans (h.2 j hj)⟩


/-- A slice of bytes: the i-th cell behind its address holds T's i-th byte. -/
def BytesAt (w : World) (a : Option Addr) (T : List UInt8) : Prop :=
  ∀ i (hi : i < T.length), ∃ b off, a = some ⟨b, off, none⟩ ∧ w.cell? ⟨b, off + i, none⟩ = some (.int .u8 (T[i].toNat : Int))

theorem BytesAt.below {w w' : World} {a : Option Addr} {T : List UInt8} (h : BytesAt w a T) (hb : Below w.heap.size w w') : BytesAt w' a T := by
  intro i hi
  obtain ⟨b, off, rfl, hc⟩ := h i hi
  exact ⟨b, off, rfl, (hb.cell (p := ⟨b, off + i, none⟩) (World.block_lt_of_cell? w _ hc)).trans hc⟩

theorem Tryf.info5 : (Tryf.prog.info? 5).map (fun i => (i.zero, i.size, i.bytes)) = some (some (.int .u8 0), 1, 1) := by kernel_rfl

def Cloned (w : World) (T : List UInt8) (e : Ending) (w' : World) : Prop :=
  ∃ a' c', e = .returned (.slice a' T.length c') ∧ BytesAt w' a' T ∧ (a' = none → T.length = 0 ∧ c' = 0) ∧ (∀ x, a' = some x → x.spot = none) ∧ Below w.heap.size w w'

theorem Own.bytes {w : World} {g : Nat} {T : List UInt8} {f : Nat → Value} (h : Own w g T.length f) (e : ∀ j (hj : j < T.length), f j = .int .u8 (T[j].toNat : Int)) : BytesAt w (some ⟨g, 0, none⟩) T :=
  fun i hi => ⟨g, 0, rfl, by rw [Nat.zero_add, h.1 i hi, e i hi]⟩

set_option maxHeartbeats 400000 in
/-- 'zzCloneBytes' -/
theorem clone_any (w : World) (a : Option Addr) (c : Nat) (T : List UInt8) (h0 : BytesAt w a T) (hn : a = none → T.length = 0) (hm : T.length ≤ 1048576) :
    Calls Tryf.prog 6 #[.slice a T.length c] w fun e w' => Cloned w T e w' := by
  obtain ⟨i0, hi, hz0, hz1, hz2⟩ := info_parts Tryf.info5
  have hq := fun w a n c => Lib.run_eql_slice_nil (P := Tryf.prog) w 22 5 a n c 0 0 Tryf.underlying22
  obtain ⟨n, hTn⟩ : ∃ n, n = T.length := ⟨_, rfl⟩
  have HN := Hid.mk hTn
  rw [← hTn] at hn hm ⊢
  clear hTn
  match a, h0, hn with
  | none, h0, hn =>
    have hn0 : n = 0 := hn rfl
    have HN0 := Hid.mk hn0
    rw [hn0]
    clear hn0
    go_enter Tryf.func6, Tryf.ntmps6
    go_wp2
    go_ret
    exact ⟨none, 0, by rw [← HN.out, HN0.out]; rfl, fun i hi => absurd hi (by rw [← HN.out, HN0.out]; omega), fun _ => ⟨by rw [← HN.out, HN0.out], rfl⟩, fun x hx => (by cases hx), Below.refl _ _⟩
  | some ad, h0, hn =>
    have hby : i0.bytes * n ≤ 281474976710656 := by rw [hz2]; omega
    have hml : n ≤ maxLen := by unfold maxLen; omega
    have H0 := Hid.mk h0
    clear hn h0
    go_enter Tryf.func6, Tryf.ntmps6
    go_wp2_with (at_make; refine wpList_make_full _ rfl _ _ 22 rfl w.heap.size 5 i0 (.int .u8 0) 1 Tryf.underlying22 hi hz0 hz1 _ _ _ _ n rfl rfl rfl rfl hby hml (Nat.le_refl _) ?_)
    intro w1 hown hgrow
    have hO := own_of_made hown
    have hB : Below w.heap.size w w1 := (Below.refl _ _).grown hgrow (Nat.le_refl _) (fun k e => by cases e)
    clear hown hgrow hi hz0 hz1 hz2 hby hml
    go_wp2
    go_loopw [4] (fun i wr => ∃ k : Nat, k ≤ n ∧ i = .int .i64 k ∧ Own wr w.heap.size n (fun j => if j < k then .int .u8 ((T.getD j 0).toNat : Int) else .int .u8 0) ∧ Below w.heap.size w wr) (fun i _ => n - (intOf i).toNat)
    case atStart => exact ⟨0, Nat.zero_le _, rfl, hO.congr fun j _ => by simp, hB⟩
    case round =>
      obtain ⟨k, hk, rfl, hOk, hBk⟩ := hrel
      by_cases hlt : k < n
      · have hlT : k < T.length := by rw [← HN.out]; exact hlt
        obtain ⟨b, off, had, hc⟩ := H0.out k hlT
        simp only [Option.some.injEq] at had
        subst had
        have hgd : T[k] = T.getD k 0 := by simp [List.getD_eq_getElem?_getD, List.getElem?_eq_getElem hlT]
        rw [hgd] at hc
        have hck : wr.cell? ⟨b, off + k, none⟩ = some (.int .u8 ((T.getD k 0).toNat : Int)) := (hBk.cell (p := ⟨b, off + k, none⟩) (World.block_lt_of_cell? w _ hc)).trans hc
        have hd : wr.cell? ⟨w.heap.size, k, none⟩ = some (.int .u8 0) := (hOk.1 k hlt).trans (by simp)
        have hf := hOk.2 k hlt
        have hOk' := hOk.put (f := fun j => .int .u8 ((T.getD j 0).toNat : Int))
        generalize (T.getD k 0).toNat = tk at *
        clear hc hgd hlT
        go_wp2
        go_roundw
        case rel => exact ⟨k + 1, by omega, by go_num, hOk', hBk.setCell (Nat.le_refl _) _⟩
        case measure => simp [intOf]; omega
      · go_wp2
        go_ret
        refine ⟨some ⟨w.heap.size, 0, none⟩, n, by rw [← HN.out]; rfl, ?_, fun h => (by cases h), fun x hx => (by cases hx; rfl), hBk⟩
        refine Own.bytes (f := fun j => if j < k then .int .u8 ((T.getD j 0).toNat : Int) else .int .u8 0) (by rw [← HN.out]; exact hOk) fun j hj => ?_
        have := HN.out
        rw [if_pos (by omega)]
        simp [List.getD_eq_getElem?_getD, List.getElem?_eq_getElem hj]

set_option maxHeartbeats 400000 in
theorem bytes5_any (w : World) (a : Option Addr) (n c : Nat) (x : Int) :
    Calls Tryf.prog 5 #[.int .i64 x, .slice a n c] w fun e w' => SomeBool e ∧ w' = w := by
  by_cases h : (1048576 : Int) < n
  all_goals
    go_enter Tryf.func5, Tryf.ntmps5
    go_wp2
    go_ret
    exact ⟨.mk _, rfl⟩

set_option maxHeartbeats 400000 in
theorem bytes9_any (w : World) (a : Option Addr) (n c : Nat) (x y : Int) :
    Calls Tryf.prog 9 #[.int .i64 x, .int .i64 y, .slice a n c] w fun e w' => SomeBool e ∧ w' = w := by
  by_cases h : (1048576 : Int) < n
  all_goals
    go_enter Tryf.func9, Tryf.ntmps9
    go_wp2
    go_ret
    exact ⟨.mk _, rfl⟩

/-- Do the bytes spell the text? -/
def same (T l : List UInt8) : Bool := decide (T = l)
theorem same_yes {T l : List UInt8} (h : T = l) : same T l = true := by simp [same, h]
theorem same_no {T l : List UInt8} (h : ¬ T = l) : same T l = false := by simp [same, h]

def SameSaid (w : World) (T l : List UInt8) (e : Ending) (w' : World) : Prop := e = .returned (.bool (same T l)) ∧ Below w.heap.size w w'

theorem lists_eq {T l : List UInt8} (hl : T.length = l.length) (h : ∀ j (h1 : j < T.length) (h2 : j < l.length), T[j] = l[j]) : T = l := List.ext_getElem hl h

set_option maxHeartbeats 800000 in
/-- 'zzSameText' -/
theorem same_any (w : World) (a : Option Addr) (c : Nat) (T : List UInt8) (s : ByteArray) (h0 : BytesAt w a T) (hm : T.length ≤ 1048576) (hs : s.size ≤ 1048576) :
    Calls Tryf.prog 11 #[.slice a T.length c, .string s] w fun e w' => SameSaid w T s.data.toList e w' := by
  have hsl : s.data.toList.length = s.size := Array.length_toList
  have HSL := Hid.mk hsl
  clear hsl
  by_cases hl : T.length = s.size
  rotate_left
  · have hne : ((T.length : Int) != (s.size : Int)) = true := by simp; omega
    have hno : same T s.data.toList = false := same_no fun e => hl (by rw [e]; exact HSL.out)
    have HNO := Hid.mk hno
    generalize T.length = n at *
    clear hno
    go_enter Tryf.func11, Tryf.ntmps11
    go_wp2
    go_ret
    exact ⟨by rw [HNO.out]; rfl, Below.refl _ _⟩
  have HL := Hid.mk hl
  have H0 := Hid.mk h0
  generalize hn : T.length = n at *
  have HN := Hid.mk hn
  subst hl
  clear hn h0
  go_enter Tryf.func11, Tryf.ntmps11
  go_wp2
  go_loopw [5] (fun i wr => ∃ k : Nat, k ≤ s.size ∧ i = .int .i64 k ∧ (∀ j (h1 : j < T.length) (h2 : j < s.data.toList.length), j < k → T[j] = s.data.toList[j]) ∧ Below w.heap.size w wr) (fun i _ => s.size - (intOf i).toNat)
  case atStart => exact ⟨0, Nat.zero_le _, rfl, fun j _ _ hj => by omega, Below.refl _ _⟩
  case round =>
    obtain ⟨k, hk, rfl, heq, hBk⟩ := hrel
    have HE := Hid.mk heq
    clear heq
    by_cases hlt : k < s.size
    · have hkT : k < T.length := by rw [HN.out]; exact hlt
      have hkS : k < s.data.toList.length := by rw [HSL.out]; exact hlt
      obtain ⟨b, off, had, hc⟩ := H0.out k hkT
      subst had
      have hck : wr.cell? ⟨b, off + k, none⟩ = some (.int .u8 (T[k].toNat : Int)) := (hBk.cell (p := ⟨b, off + k, none⟩) (World.block_lt_of_cell? w _ hc)).trans hc
      have hsk : s.data.toList[k] = s[k] := rfl
      have HSK := Hid.mk hsk
      clear hc hsk
      by_cases hq : T[k] = s[k]
      · have hb : ((T[k].toNat : Int) != (s[k].toNat : Int)) = false := by rw [hq]; simp
        have HQ := Hid.mk hq
        clear hq
        generalize (T[k].toNat : Int) = tk at *
        go_wp2
        go_region
        go_wp2
        go_roundw
        case rel =>
          refine ⟨k + 1, by omega, by go_num, fun j h1 h2 hj => ?_, hBk.drew⟩
          by_cases e : j = k
          · subst e; rw [HQ.out, HSK.out]
          · exact HE.out j h1 h2 (by omega)
        case measure => simp [intOf]; omega
      · have hb : ((T[k].toNat : Int) != (s[k].toNat : Int)) = true := by
          simp only [bne_iff_ne, ne_eq]
          intro h
          exact hq (UInt8.toNat_inj.1 (by omega))
        have hno : same T s.data.toList = false := same_no fun e => hq (by rw [← HSK.out]; simp only [e])
        have HNO := Hid.mk hno
        clear hq hno
        generalize (T[k].toNat : Int) = tk at *
        go_wp2
        go_region
        go_wp2
        go_ret
        exact ⟨by rw [HNO.out]; rfl, hBk.drew⟩
    · have hyes : same T s.data.toList = true := same_yes (lists_eq (by rw [HN.out, HSL.out]) fun j h1 h2 => HE.out j h1 h2 (by rw [HSL.out] at h2; omega))
      have HY := Hid.mk hyes
      clear hyes
      go_wp2
      go_ret
      exact ⟨by rw [HY.out]; rfl, hBk⟩

end Go.Proofs.Qxb6603553aFmt
