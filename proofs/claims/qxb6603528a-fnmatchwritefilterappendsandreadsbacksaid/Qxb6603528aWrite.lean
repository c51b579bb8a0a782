import Derived.Test.Qxb6603528aBase
import Derived.Test.Qxb6603528aShelf
import Derived.Test.Qxb6603528aPlain
import Derived.Lib.Strings
import Derived.Lib.IndexBytes
import Derived.Deep.LoopGhost
import Derived.Deep.RegionWith
namespace Go.Proofs.Qxb6603528a
open Go.RowKit

/-- A builder at block b that holds the bytes acc; all that it owns lies from b on. -/
def IsB (w : World) (b : Nat) (acc : List UInt8) : Prop := Lib.IsBuilder 39 5 b b (Lib.byteCells acc) w

theorem IsB.lt {w : World} {b : Nat} {acc : List UInt8} (h : IsB w b acc) : b < w.heap.size := by
  rcases h with h | h
  · exact h.lt
  · exact h.lt

theorem IsB.drew {w : World} {b : Nat} {acc : List UInt8} (h : IsB w b acc) : IsB w.drew b acc := h

theorem Hid.mk {p : Prop} (h : p) : Hid p := h

def Wrote (w : World) (b : Nat) (acc : List UInt8) (w' : World) : Prop := IsB w' b acc ∧ Below b w w'

theorem wstr_any (w : World) (b : Nat) (acc : List UInt8) (s : ByteArray) (h : IsB w b acc) (hl : acc.length + s.size ≤ 1099511627776) :
    Calls Try.prog 17 #[.pointer (some ⟨b, 0, none⟩), .string s] w fun e w' => e = .returned (.tuple #[.int .i64 s.size, .nilIface]) ∧ Wrote w b (acc ++ s.data.toList) w' := by
  refine (Try.Builder_WriteString b b _ s w h (by rw [Lib.byteCells_length]; omega) (Nat.le_of_lt h.lt)).mono ?_
  rintro e w' ⟨rfl, h1, h2⟩
  refine ⟨rfl, .inr ?_, h2⟩
  rw [Lib.byteCells_append]
  exact h1

theorem wbyte_any (w : World) (b : Nat) (acc : List UInt8) (c : UInt8) (x : Int) (hx : x = (c.toNat : Int)) (h : IsB w b acc) (hl : acc.length + 1 ≤ 1099511627776) :
    Calls Try.prog 20 #[.pointer (some ⟨b, 0, none⟩), .int .u8 x] w fun e w' => e = .returned .nilIface ∧ Wrote w b (acc ++ [c]) w' := by
  subst hx
  refine (Try.Builder_WriteByte b b _ _ w h (by rw [Lib.byteCells_length]; omega) (Nat.le_of_lt h.lt)).mono ?_
  rintro e w' ⟨rfl, h1, h2⟩
  refine ⟨rfl, .inr ?_, h2⟩
  rw [Lib.byteCells_append]
  exact h1

/-- A slice's elements, in blocks below b. -/
def CellsB (w : World) (b : Nat) (a : Option Addr) (len : Nat) (f : Nat → Value) : Prop :=
  ∀ i, i < len → ∃ k off, a = some ⟨k, off, none⟩ ∧ k < b ∧ w.cell? ⟨k, off + i, none⟩ = some (f i)

theorem CellsB.below {w w' : World} {b : Nat} {a : Option Addr} {len : Nat} {f : Nat → Value} (h : CellsB w b a len f) (hb : Below b w w') : CellsB w' b a len f := by
  intro i hi
  obtain ⟨k, off, rfl, hk, hc⟩ := h i hi
  exact ⟨k, off, rfl, hk, (hb.cell (p := ⟨k, off + i, none⟩) hk).trans hc⟩

set_option maxHeartbeats 800000 in
/-- 'Chain.writeOperand' -/
theorem chain_any (w : World) (b : Nat) (acc : List UInt8) (a : Option Addr) (n c : Nat) (S : Nat → ByteArray) (h0 : CellsB w b a n fun i => .string (S i)) (hn : n ≤ 65536) (h : IsB w b acc) (hl : acc.length + (Pl.joinN S n).length ≤ 1099511627776) :
    Calls Try.prog 39 #[.slice a n c, .pointer (some ⟨b, 0, none⟩)] w fun e w' => e = .returned (.tuple #[]) ∧ Wrote w b (acc ++ Pl.joinN S n) w' := by
  go_enter Try.func39, Try.ntmps39
  go_wp2_with fail
  go_loopw [8] (fun i wr => ∃ k : Nat, k ≤ n ∧ i = .int .i64 k ∧ Wrote w b (acc ++ Pl.joinN S k) wr) (fun i _ => n - (intOf i).toNat)
  case atStart => exact ⟨0, Nat.zero_le _, rfl, by simpa [Pl.joinN] using h, Below.refl _ _⟩
  case round =>
    obtain ⟨k, hk, rfl, hW⟩ := hrel
    by_cases hlt : k < n
    · obtain ⟨kb, off, had, hkb, hc⟩ := h0 k hlt
      subst had
      have hck : wr.cell? ⟨kb, off + k, none⟩ = some (.string (S k)) := (hW.2.cell (p := ⟨kb, off + k, none⟩) hkb).trans hc
      clear hc
      have hlk := Pl.joinN_le S (k + 1) (n - (k + 1))
      rw [show k + 1 + (n - (k + 1)) = n by omega] at hlk
      have HJ : Hid (Pl.joinN S (k + 1) = Pl.joinN S k ++ ((if 0 < k then [46] else []) ++ (S k).data.toList)) := rfl
      have hlk2 : (Pl.joinN S k).length + 1 + (S k).size ≤ (Pl.joinN S n).length + 1 := by
        rw [HJ.out] at hlk
        simp only [List.length_append, Array.length_toList] at hlk
        show (Pl.joinN S k).length + 1 + (S k).data.size ≤ _
        omega
      have hlk3 : 0 < k → (Pl.joinN S k).length + 1 + (S k).size ≤ (Pl.joinN S n).length := by
        intro h0
        rw [HJ.out, if_pos h0] at hlk
        simp only [List.length_append, Array.length_toList, List.length_cons, List.length_nil] at hlk
        show (Pl.joinN S k).length + 1 + (S k).data.size ≤ _
        omega
      clear hlk
      by_cases hk0 : 0 < k
      · have hl3 := hlk3 hk0
        clear hlk3
        go_wp2_with fail
        refine (wbyte_any _ b _ 46 46 rfl hW.1 (by simp; omega)).mono ?_
        rintro e w1 ⟨rfl, hW1⟩
        have hB1 := hW.2.trans hW1.2
        go_wp2_with fail
        refine (wstr_any _ b _ (S k) hW1.1 (by simp; omega)).mono ?_
        rintro e w2 ⟨rfl, hW2⟩
        have hB2 := hB1.trans hW2.2
        go_wp2_with fail
        go_roundw
        case rel => exact ⟨k + 1, by omega, by go_num, by rw [HJ.out, if_pos hk0]; simpa using hW2.1, hB2⟩
        case measure => simp [intOf]; omega
      · go_wp2_with fail
        refine (wstr_any _ b _ (S k) hW.1 (by simp; omega)).mono ?_
        rintro e w2 ⟨rfl, hW2⟩
        have hB2 := hW.2.trans hW2.2
        go_wp2_with fail
        go_roundw
        case rel => exact ⟨k + 1, by omega, by go_num, by rw [HJ.out, if_neg hk0]; simpa using hW2.1, hB2⟩
        case measure => simp [intOf]; omega
    · go_wp2_with fail
      go_returns
      have e : k = n := by omega
      subst e
      exact ⟨rfl, hW⟩

set_option maxHeartbeats 800000 in
/-- 'Literal.writeOperand' -/
theorem literal_any (w : World) (b : Nat) (acc : List UInt8) (t : ByteArray) (ht : t.size ≤ 1048576) (h : IsB w b acc) (hl : acc.length ≤ 1073741824) :
    Calls Try.prog 41 #[.string t, .pointer (some ⟨b, 0, none⟩)] w fun e w' => e = .returned (.tuple #[]) ∧ Wrote w b (acc ++ [39] ++ Pl.dbl t.data.toList ++ [39]) w' := by
  go_enter Try.func41, Try.ntmps41
  go_wp2_with fail
  refine (wbyte_any _ b _ 39 39 rfl h (by omega)).mono ?_
  rintro e w1 ⟨rfl, hW1⟩
  go_wp2_with fail
  go_loopg [4] t.size (fun m v wr => ∃ (s : ByteArray) (done : List UInt8), v = .string s ∧ m = s.size ∧ t.data.toList = done ++ s.data.toList ∧ Wrote w b (acc ++ [39] ++ Pl.dbl done) wr)
  case atStart => exact ⟨t, [], rfl, rfl, by simp, by simpa [Pl.dbl] using hW1.1, hW1.2⟩
  case round =>
    obtain ⟨s, done, rfl, rfl, hd, hW⟩ := hrel
    have HD := Hid.mk hd
    have hsz : done.length + s.size = t.size := by
      have := congrArg List.length hd
      simp only [Array.length_toList, List.length_append] at this
      exact this.symm
    have hdl := Pl.dbl_length done
    clear hd
    go_wp2_with fail
    refine (Try.strings_IndexByte s 39 _).mono ?_
    rintro e w' ⟨rfl, hw⟩
    have hw := hw.symm
    subst hw
    have hge := Lib.indexByte_ge s.data.toList 39
    rw [show (39 : Int).toNat.toUInt8 = 39 from rfl]
    generalize hix : Lib.indexByte s.data.toList 39 = ix at *
    have HX := Hid.mk hix
    clear hix
    by_cases hneg : ix < 0
    · go_wp2_with fail
      refine (wstr_any _ b _ s hW.1 (by simp; omega)).mono ?_
      rintro e w2 ⟨rfl, hW2⟩
      have hB2 := hW.2.trans hW2.2
      go_wp2_with fail
      refine (wbyte_any _ b _ 39 39 rfl hW2.1 (by simp; omega)).mono ?_
      rintro e w3 ⟨rfl, hW3⟩
      have hB3 := hB2.trans hW3.2
      go_wp2_with fail
      go_returns
      refine ⟨rfl, ?_, hB3⟩
      have hp := Pl.plain_of (l := s.data.toList) (c := 39) (by rw [HX.out]; omega)
      rw [HD.out, Pl.dbl_append, Pl.dbl_plain _ hp]
      simpa using hW3.1
    · obtain ⟨o, ho⟩ := Int.eq_ofNat_of_zero_le (show 0 ≤ ix by omega)
      subst ho
      obtain ⟨ho1, ho2, ho3⟩ := Pl.part_at HX.out
      have hos : o < s.size := ho1
      clear ho1 ho2 ho3
      have e1 : (s.extract 0 (o + 1)).data.toList = s.data.toList.take (o + 1) := by rw [Lib.extract_data]; simp
      have z1 : (s.extract 0 (o + 1)).size = o + 1 := by rw [ByteArray.size_extract]; omega
      have E1 := Hid.mk e1
      have Z1 := Hid.mk z1
      clear e1 z1
      go_wp2_with fail
      refine (wstr_any _ b _ (s.extract 0 (o + 1)) hW.1 (by rw [Z1.out]; simp; omega)).mono ?_
      rintro e w2 ⟨rfl, hW2⟩
      rw [E1.out] at hW2
      have hB2 := hW.2.trans hW2.2
      go_wp2_with fail
      refine (wbyte_any _ b _ 39 39 rfl hW2.1 (by simp; omega)).mono ?_
      rintro e w3 ⟨rfl, hW3⟩
      have hB3 := hB2.trans hW3.2
      have HB3 := Hid.mk hB3
      have HW3 := Hid.mk hW3.1
      clear hB3 hW3 hW2 hB2
      go_wp2_with fail
      go_roundg (s.extract (o + 1) s.size).size
      case measure => rw [ByteArray.size_extract]; omega
      case rel =>
        refine ⟨s.extract (o + 1) s.size, done ++ s.data.toList.take (o + 1), rfl, rfl, ?_, ?_, HB3.out⟩
        · rw [Lib.extract_to_end, List.append_assoc, List.take_append_drop]; exact HD.out
        · rw [Pl.dbl_step HX.out]
          simpa using HW3.out

set_option maxHeartbeats 800000 in
theorem pair_any (w : World) (b : Nat) (acc : List UInt8) (op t : ByteArray) (a : Option Addr) (n c : Nat) (S : Nat → ByteArray) (h0 : CellsB w b a n fun i => .string (S i)) (hn : n ≤ 65536) (ht : t.size ≤ 1048576) (h : IsB w b acc)
    (hl : acc.length + op.size + (Pl.joinN S n).length ≤ 1000000000) :
    Calls Try.prog 18 #[.pointer (some ⟨b, 0, none⟩), .string op, .iface 33 (.slice a n c), .iface 34 (.string t)] w fun e w' => e = .returned (.tuple #[]) ∧ Wrote w b (acc ++ Pl.text op.data.toList S n t.data.toList) w' := by
  go_enter Try.func18, Try.ntmps18
  go_wp2_with fail
  refine (wstr_any _ b _ op h (by omega)).mono ?_
  rintro e w1 ⟨rfl, hW1⟩
  go_wp2_with fail
  refine (wbyte_any _ b _ 40 40 rfl hW1.1 (by simp; omega)).mono ?_
  rintro e w2 ⟨rfl, hW2⟩
  go_wp2_with fail
  refine (chain_any _ b _ a n c S ((h0.below hW1.2).below hW2.2) hn hW2.1 (by simp; omega)).mono ?_
  rintro e w3 ⟨rfl, hW3⟩
  go_wp2_with fail
  refine (wbyte_any _ b _ 44 44 rfl hW3.1 (by simp; omega)).mono ?_
  rintro e w4 ⟨rfl, hW4⟩
  go_wp2_with fail
  refine (literal_any _ b _ t ht hW4.1 (by simp; omega)).mono ?_
  rintro e w5 ⟨rfl, hW5⟩
  have hdl := Pl.dbl_length t.data.toList
  have htl : t.data.toList.length = t.size := Array.length_toList
  rw [htl] at hdl
  clear htl
  go_wp2_with fail
  refine (wbyte_any _ b _ 41 41 rfl hW5.1 (by simp; omega)).mono ?_
  rintro e w6 ⟨rfl, hW6⟩
  have hB := ((((hW1.2.trans hW2.2).trans hW3.2).trans hW4.2).trans hW5.2).trans hW6.2
  go_wp2_with fail
  go_returns
  refine ⟨rfl, ?_, hB⟩
  have h6 := hW6.1
  unfold Pl.text
  simpa using h6

/-- A Match in memory, below b. -/
structure IsMatch (w : World) (m : Nat) (op t : ByteArray) (a : Option Addr) (n c : Nat) : Prop where
  op : w.cell? ⟨m, 0, none⟩ = some (.string op)
  chain : w.cell? ⟨m, 1, none⟩ = some (.slice a n c)
  text : w.cell? ⟨m, 2, none⟩ = some (.string t)

set_option maxHeartbeats 800000 in
theorem filter_any (w : World) (m b : Nat) (acc : List UInt8) (op t : ByteArray) (a : Option Addr) (n c : Nat) (S : Nat → ByteArray) (hM : IsMatch w m op t a n c) (h0 : CellsB w b a n fun i => .string (S i)) (hn : n ≤ 65536) (ht : t.size ≤ 1048576) (h : IsB w b acc)
    (hl : acc.length + op.size + (Pl.joinN S n).length ≤ 1000000000) :
    Calls Try.prog 13 #[.pointer (some ⟨m, 0, none⟩), .pointer (some ⟨b, 0, none⟩)] w fun e w' => e = .returned (.tuple #[]) ∧ Wrote w b (acc ++ Pl.text op.data.toList S n t.data.toList) w' := by
  have m0 := hM.op
  have m1 := hM.chain
  have m2 := hM.text
  have HP := Hid.mk (pair_any w.drew b acc op t a n c S h0 hn ht h hl)
  clear hM h0 hl
  go_enter Try.func13, Try.ntmps13
  go_wp2_with fail
  go_region_with (go_at_call 18; refine HP.out.mono ?_; rintro e w1 ⟨rfl, hW1⟩)
  all_goals
    go_wp2_with fail
    go_returns
    exact ⟨rfl, hW1.1, (Below.refl _ _).drew.trans hW1.2⟩

end Go.Proofs.Qxb6603528a
