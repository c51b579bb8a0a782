import Derived.Test.Qxb6603528aZZ
import Derived.Lib.AppendStr
namespace Go.Proofs.Qxb6603528a
open Go.RowKit

theorem Try.info5 : (Try.prog.info? 5).map (fun i => (i.zero, i.size, i.bytes)) = some (some (.int .u8 0), 1, 1) := by kernel_rfl

/-- A slice of bytes of the call's own: v holds the bytes l. -/
def OwnB (w : World) (base : Nat) (v : Value) (l : List UInt8) : Prop := w.ownsRow base 5 1 v l.length (Lib.byteCells l)

theorem OwnB.nil (w : World) (base : Nat) : OwnB w base (.slice none 0 0) [] := World.ownsRow_nil _ _ _ _

theorem below_app {w w' : World} {base n : Nat} {v : Value} {xs : List Value} (hown : w.ownsRow base 5 1 v n xs) (hg : w.grownBy w' v.ownBlock) (hb : base ≤ w.heap.size) : Below base w w' :=
  (Below.refl _ _).grown hg hb fun k hk => (hown.lt k hk).1

theorem wpList_app_str {ops : Array Oper} {rest : List Oper} {o : Oper} {a : Act} {Q : Exit → Act → World → Prop} {w : World} (sl x : Operand) (hgd : o.guard = none)
    (ho : o.op = .call { callee := .builtin .append, args := #[sl, x], argTypes := #[27, 9] }) (base : Nat) (v : Value) (l : List UInt8) (s : ByteArray) (hown : OwnB w base v l) (hs : a.eval sl = v) (hx : a.eval x = .string s)
    (hl : l.length + s.size ≤ 1099511627776) (hbase : base ≤ w.heap.size)
    (h : ∀ v' w', OwnB w' base v' (l ++ s.data.toList) → Below base w w' → wpList Try.prog ops Q rest (a.put o.dst v') w') : wpList Try.prog ops Q (o :: rest) a w := by
  obtain ⟨i0, hi, hz0, hz1, hz2⟩ := info_parts Try.info5
  refine Lib.wpList_append_own_string (P := Try.prog) w hgd sl x 27 9 ho base 5 i0 Try.underlying27 Try.underlying9 hi hz0 hz1 hz2 v l.length (Lib.byteCells l) hs hown s hx (by unfold maxLen; omega) (by omega) hbase ?_
  intro v' w' h1 h2 _
  refine h v' w' ?_ (below_app hown h2 hbase)
  unfold OwnB
  rw [Lib.byteCells_append, List.length_append, Array.length_toList]
  exact h1

theorem wpList_app_byte {ops : Array Oper} {rest : List Oper} {o : Oper} {a : Act} {Q : Exit → Act → World → Prop} {w : World} (sl x : Operand) (hgd : o.guard = none)
    (ho : o.op = .call { callee := .builtin .append, args := #[sl, x], argTypes := #[27, 27] }) (base : Nat) (v : Value) (l : List UInt8) (c : UInt8) (y : Int) (hy : y = (c.toNat : Int)) (hown : OwnB w base v l) (hs : a.eval sl = v)
    (hx : a.eval x = .slice (some ⟨w.heap.size, 0, none⟩) 1 1) (hl : l.length + 1 ≤ 1099511627776) (hbase : base ≤ w.heap.size)
    (h : ∀ v' w', OwnB w' base v' (l ++ [c]) → Below base w w' → wpList Try.prog ops Q rest (a.put o.dst v') w') : wpList Try.prog ops Q (o :: rest) a (w.alloc (.cells #[.int .u8 y] 5)) := by
  obtain ⟨i0, hi, hz0, hz1, hz2⟩ := info_parts Try.info5
  subst hy
  refine wpList_append_own (P := Try.prog) _ hgd sl x 27 ho base 5 i0 (.int .u8 0) 1 1 Try.underlying27 hi hz0 hz1 hz2 rfl (by decide) v l.length (Lib.byteCells l) hs (World.ownsRow.alloc hown _) ⟨w.heap.size, 0, none⟩ 1 1 [.int .u8 (c.toNat : Int)] hx rfl ?_ ?_
    (by unfold maxLen; omega) (by omega) (by simp; omega) ?_
  · intro j u hj
    match j, hj with
    | 0, hj => simp at hj; subst hj; simp [Addr.add]
  · intro u hu; simp at hu; subst hu; rfl
  · intro v' w' h1 h2 _
    refine h v' w' ?_ (((Below.refl _ _).alloc hbase _).trans (below_app (World.ownsRow.alloc hown _) h2 (by simp; omega)))
    unfold OwnB
    rw [Lib.byteCells_append, List.length_append]
    exact h1

def App (w : World) (base : Nat) (l : List UInt8) (e : Ending) (w' : World) : Prop := ∃ v', e = .returned v' ∧ OwnB w' base v' l ∧ Below base w w'

set_option maxHeartbeats 800000 in
theorem join_any (w : World) (base : Nat) (v : Value) (l : List UInt8) (a : Option Addr) (n c : Nat) (S : Nat → ByteArray) (h0 : CellsB w base a n fun i => .string (S i)) (hn : n ≤ 65536) (h : OwnB w base v l) (hb : base ≤ w.heap.size) (hl : l.length + (Pl.joinN S n).length ≤ 1000000000) :
    Calls Try.prog 15 #[v, .slice a n c] w fun e w' => App w base (l ++ Pl.joinN S n) e w' := by
  go_enter Try.func15, Try.ntmps15
  go_wp2_with fail
  go_loopw [0, 5] (fun v i wr => ∃ k : Nat, k ≤ n ∧ i = .int .i64 k ∧ OwnB wr base v (l ++ Pl.joinN S k) ∧ Below base w wr) (fun _ i _ => n - (intOf i).toNat)
  case atStart => exact ⟨0, Nat.zero_le _, rfl, by simpa [Pl.joinN] using h, Below.refl _ _⟩
  case round =>
    obtain ⟨k, hk, rfl, hO, hB⟩ := hrel
    have hbk : base ≤ wr.heap.size := Nat.le_trans hb hB.size
    by_cases hlt : k < n
    · obtain ⟨kb, off, had, hkb, hc⟩ := h0 k hlt
      subst had
      have hck : wr.cell? ⟨kb, off + k, none⟩ = some (.string (S k)) := (hB.cell (p := ⟨kb, off + k, none⟩) hkb).trans hc
      clear hc
      have hlk := Pl.joinN_le S (k + 1) (n - (k + 1))
      rw [show k + 1 + (n - (k + 1)) = n by omega] at hlk
      have HJ : Hid (Pl.joinN S (k + 1) = Pl.joinN S k ++ ((if 0 < k then [46] else []) ++ (S k).data.toList)) := rfl
      have hlk2 : (Pl.joinN S k).length + (S k).size ≤ (Pl.joinN S n).length := by
        rw [HJ.out] at hlk
        simp only [List.length_append, Array.length_toList] at hlk
        show (Pl.joinN S k).length + (S k).data.size ≤ _
        omega
      clear hlk
      have hle1 : (l ++ Pl.joinN S k).length + 1 ≤ 1099511627776 := by rw [List.length_append]; omega
      have hle2 : (l ++ Pl.joinN S k ++ [46]).length + (S k).size ≤ 1099511627776 := by simp only [List.length_append, List.length_cons, List.length_nil]; omega
      have hle3 : (l ++ Pl.joinN S k).length + (S k).size ≤ 1099511627776 := by rw [List.length_append]; omega
      have L1 := Hid.mk hle1
      have L2 := Hid.mk hle2
      have L3 := Hid.mk hle3
      clear hle1 hle2 hle3
      by_cases hk0 : 0 < k
      · go_wp2_with (at_builtin; refine wpList_app_byte (.tmp 14) (.tmp 15) rfl rfl base _ _ 46 46 rfl hO rfl rfl L1.out hbk ?_)
        intro v1 w1 hO1 hB1
        have hck1 : w1.cell? ⟨kb, off + k, none⟩ = some (.string (S k)) := (hB1.cell (p := ⟨kb, off + k, none⟩) hkb).trans hck
        have hbk1 : base ≤ w1.heap.size := Nat.le_trans hbk hB1.size
        have hBt := hB.trans hB1
        clear hck hO hB hB1 hbk
        go_wp2_with (at_builtin; refine wpList_app_str (.tmp 17) (.tmp 21) rfl rfl base _ _ (S k) hO1 rfl rfl (by simpa using L2.out) hbk1 ?_)
        intro v2 w2 hO2 hB2
        have hBt2 := hBt.trans hB2
        go_wp2
        go_roundw
        case rel => exact ⟨k + 1, by omega, by go_num, by rw [HJ.out, if_pos hk0]; simpa using hO2, hBt2⟩
        case measure => simp [intOf]; omega
      · go_wp2_with (at_builtin; refine wpList_app_str (.tmp 17) (.tmp 21) rfl rfl base _ _ (S k) hO rfl rfl L3.out hbk ?_)
        intro v2 w2 hO2 hB2
        have hBt2 := hB.trans hB2
        go_wp2
        go_roundw
        case rel => exact ⟨k + 1, by omega, by go_num, by rw [HJ.out, if_neg hk0]; simpa using hO2, hBt2⟩
        case measure => simp [intOf]; omega
    · go_wp2_with fail
      go_ret
      have e : k = n := by omega
      subst e
      exact ⟨_, rfl, hO, hB⟩

theorem take_succ_dbl (t : ByteArray) (k : Nat) (h : k < t.size) : Pl.dbl (t.data.toList.take (k + 1)) = Pl.dbl (t.data.toList.take k) ++ (if t[k] = 39 then [39, 39] else [t[k]]) := by
  rw [List.take_succ_eq_append_getElem (by simpa using h), Pl.dbl_append]
  simp only [Pl.dbl, List.append_nil]
  rfl

theorem dbl_take_le (t : ByteArray) (k : Nat) (h : k ≤ t.size) : (Pl.dbl (t.data.toList.take k)).length ≤ 2 * t.size := by
  have h1 := (Pl.dbl_length (t.data.toList.take k)).2
  have h2 : (t.data.toList.take k).length ≤ k := List.length_take_le _ _
  omega

set_option maxHeartbeats 800000 in
theorem quoted_any (w : World) (base : Nat) (v : Value) (l : List UInt8) (t : ByteArray) (ht : t.size ≤ 1048576) (h : OwnB w base v l) (hb : base ≤ w.heap.size) (hl : l.length ≤ 1000000000) :
    Calls Try.prog 16 #[v, .string t] w fun e w' => App w base (l ++ [39] ++ Pl.dbl t.data.toList ++ [39]) e w' := by
  have L0 : Hid (l.length + 1 ≤ 1099511627776) := by show _ ≤ _; omega
  go_enter Try.func16, Try.ntmps16
  go_wp2_with (at_builtin; refine wpList_app_byte (.tmp 7) (.tmp 8) rfl rfl base _ _ 39 39 rfl h rfl rfl L0.out hb ?_)
  intro v1 w1 hO1 hB1
  go_wp2_with fail
  go_loopw [0, 5] (fun v i wr => ∃ k : Nat, k ≤ t.size ∧ i = .int .i64 k ∧ OwnB wr base v (l ++ [39] ++ Pl.dbl (t.data.toList.take k)) ∧ Below base w wr) (fun _ i _ => t.size - (intOf i).toNat)
  case atStart => exact ⟨0, Nat.zero_le _, rfl, by simpa [Pl.dbl] using hO1, hB1⟩
  case round =>
    obtain ⟨k, hk, rfl, hO, hB⟩ := hrel
    have hbk : base ≤ wr.heap.size := Nat.le_trans hb hB.size
    have hdl := dbl_take_le t k hk
    have L1 : Hid ((l ++ [39] ++ Pl.dbl (t.data.toList.take k)).length + 1 ≤ 1099511627776) := by show _ ≤ _; simp only [List.length_append, List.length_cons, List.length_nil]; omega
    by_cases hlt : k < t.size
    · have HS := Hid.mk (take_succ_dbl t k hlt)
      have L2 : Hid ((l ++ [39] ++ Pl.dbl (t.data.toList.take k) ++ [t[k]]).length + 1 ≤ 1099511627776) := by show _ ≤ _; simp only [List.length_append, List.length_cons, List.length_nil]; omega
      generalize Pl.dbl (t.data.toList.take k) = dk at *
      clear hO1 hB1
      go_wp2_with (at_builtin; refine wpList_app_byte (.tmp 19) (.tmp 21) rfl rfl base _ _ t[k] _ rfl hO rfl rfl L1.out hbk ?_)
      intro v2 w2 hO2 hB2
      have hbk2 : base ≤ w2.heap.size := Nat.le_trans hbk hB2.size
      have hBt := hB.trans hB2
      clear hO hB hB2 hbk
      by_cases hq : ((t[k].toNat : Int) == 39) = true
      · have hc : t[k] = 39 := by
          have h1 : (t[k].toNat : Int) = 39 := by simpa using hq
          have : t[k].toNat = 39 := by omega
          exact UInt8.toNat_inj.1 this
        have HC := Hid.mk hc
        clear hc
        go_wp2_with (at_builtin; refine wpList_app_byte (.tmp 25) (.tmp 26) rfl rfl base _ _ 39 39 rfl hO2 rfl rfl (by simpa using L2.out) hbk2 ?_)
        intro v3 w3 hO3 hB3
        have hBt3 := hBt.trans hB3
        go_wp2
        go_roundw
        case rel =>
          refine ⟨k + 1, by omega, by go_num, ?_, hBt3⟩
          rw [HS.out, if_pos HC.out]
          rw [HC.out] at hO3
          simpa using hO3
        case measure => simp [intOf]; omega
      · have hc : t[k] ≠ 39 := by
          intro e
          exact hq (by rw [e]; rfl)
        have HC := Hid.mk hc
        have hq' : ((t[k].toNat : Int) == 39) = false := by simpa using hq
        clear hc hq
        go_wp2
        go_roundw
        case rel =>
          refine ⟨k + 1, by omega, by go_num, ?_, hBt⟩
          rw [HS.out, if_neg HC.out]
          simpa using hO2
        case measure => simp [intOf]; omega
    · have e : k = t.size := by omega
      have hfull : t.data.toList.take k = t.data.toList := List.take_of_length_le (by rw [Array.length_toList]; show t.data.size ≤ k; have : t.size = t.data.size := rfl; omega)
      rw [hfull] at hO L1
      clear hfull
      go_wp2_with (at_builtin; refine wpList_app_byte (.tmp 28) (.tmp 29) rfl rfl base _ _ 39 39 rfl hO rfl rfl L1.out hbk ?_)
      intro v2 w2 hO2 hB2
      have hBt := hB.trans hB2
      go_wp2
      go_ret
      exact ⟨_, rfl, by simpa using hO2, hBt⟩

set_option maxHeartbeats 800000 in
/-- 'b1AppendMatch' onto nil. -/
theorem match_any (w : World) (op t : ByteArray) (a : Option Addr) (n c : Nat) (S : Nat → ByteArray) (h0 : Cells w a n fun i => .string (S i)) (hn : n ≤ 65536) (ht : t.size ≤ 1048576) (hl : op.size + (Pl.joinN S n).length ≤ 100000000) :
    Calls Try.prog 9 #[.slice none 0 0, .string op, .slice a n c, .string t] w fun e w' => App w w.heap.size (Pl.text op.data.toList S n t.data.toList) e w' := by
  have hC : CellsB w w.heap.size a n fun i => .string (S i) := cellsB_of h0 (Below.refl _ _) (Nat.le_refl _)
  have ho := OwnB.nil w w.heap.size
  have L0 : Hid (([] : List UInt8).length + op.size ≤ 1099511627776) := by show _ ≤ _; simp; omega
  have L1 : Hid (([] ++ op.data.toList).length + 1 ≤ 1099511627776) := by show _ ≤ _; simp; omega
  clear h0
  go_enter Try.func9, Try.ntmps9
  go_wp2_with (at_builtin; refine wpList_app_str (.tmp 9) (.tmp 10) rfl rfl w.heap.size _ _ op ho rfl rfl L0.out (Nat.le_refl _) ?_)
  intro v1 w1 hO1 hB1
  have b1 : w.heap.size ≤ w1.heap.size := hB1.size
  clear ho
  go_wp2_with (at_builtin; refine wpList_app_byte (.tmp 12) (.tmp 13) rfl rfl w.heap.size _ _ 40 40 rfl hO1 rfl rfl (by simpa using L1.out) b1 ?_)
  intro v2 w2 hO2 hB2
  have b2 : w.heap.size ≤ w2.heap.size := Nat.le_trans b1 hB2.size
  have HJ := Hid.mk (join_any w2 w.heap.size v2 _ a n c S ((hC.below hB1).below hB2) hn hO2 b2 (by simp; omega))
  clear hO1
  go_wp2_with fail
  refine HJ.out.mono ?_
  rintro e w3 ⟨v3, rfl, hO3, hB3⟩
  have b3 : w.heap.size ≤ w3.heap.size := Nat.le_trans b2 hB3.size
  have L3 : Hid ((op.data.toList ++ [40] ++ Pl.joinN S n).length + 1 ≤ 1099511627776) := by show _ ≤ _; simp; omega
  have L4 : Hid ((op.data.toList ++ [40] ++ Pl.joinN S n ++ [44]).length ≤ 1000000000) := by show _ ≤ _; simp; omega
  have hdl := (Pl.dbl_length t.data.toList).2
  have htl : t.data.toList.length = t.size := Array.length_toList
  rw [htl] at hdl
  have L5 : Hid ((op.data.toList ++ [40] ++ Pl.joinN S n ++ [44] ++ [39] ++ Pl.dbl t.data.toList ++ [39]).length + 1 ≤ 1099511627776) := by show _ ≤ _; simp; omega
  clear HJ hO2 htl hdl
  go_wp2_with (at_builtin; refine wpList_app_byte (.tmp 18) (.tmp 19) rfl rfl w.heap.size _ _ 44 44 rfl hO3 rfl rfl L3.out b3 ?_)
  intro v4 w4 hO4 hB4
  have b4 : w.heap.size ≤ w4.heap.size := Nat.le_trans b3 hB4.size
  have hO4' : OwnB w4 w.heap.size v4 (op.data.toList ++ [40] ++ Pl.joinN S n ++ [44]) := by simpa using hO4
  clear hO4 hO3
  go_wp2_with fail
  refine (quoted_any w4 w.heap.size v4 _ t ht hO4' b4 L4.out).mono ?_
  rintro e w5 ⟨v5, rfl, hO5, hB5⟩
  have b5 : w.heap.size ≤ w5.heap.size := Nat.le_trans b4 hB5.size
  clear hO4'
  go_wp2_with (at_builtin; refine wpList_app_byte (.tmp 24) (.tmp 25) rfl rfl w.heap.size _ _ 41 41 rfl hO5 rfl rfl L5.out b5 ?_)
  intro v6 w6 hO6 hB6
  have hB := ((((hB1.trans hB2).trans hB3).trans hB4).trans hB5).trans hB6
  go_wp2
  go_ret
  exact ⟨_, rfl, by unfold Pl.text; simpa using hO6, hB⟩

end Go.Proofs.Qxb6603528a
