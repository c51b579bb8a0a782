import Derived.Test.Qxb6603553aFmtFacts
import Derived.Test.Qxb6603553aFmtShelf
namespace Go.Proofs.Qxb6603553aFmt
open Go.RowKit
open Go.Extern.Stop Go.Stop Go.Extern

/-- An error has been made; nothing that was there has turned. -/
def ErrSaid (w : World) (e : Ending) (w' : World) : Prop := ∃ x, e = .returned (.iface 51 (.pointer x)) ∧ Below w.heap.size w w'

theorem bytes_ints {w : World} {b off : Nat} {T : List UInt8} (h : ∀ i (hi : i < T.length), w.cell? ⟨b, off + i, none⟩ = some (.int .u8 (T[i].toNat : Int))) :
    ∀ j v, ((T.map fun c => (c.toNat : Int)).map (Value.int .u8))[j]? = some v → w.cell? ((⟨b, off, none⟩ : Addr).add j) = some v := by
  intro j v hj
  have hlt : j < T.length := by
    have := (List.getElem?_eq_some_iff.1 hj).1
    simpa using this
  have ea : ((⟨b, off, none⟩ : Addr).add j) = ⟨b, off + j, none⟩ := by
    simp only [Addr.add]
    by_cases e : j = 0 <;> simp [e]
  rw [ea, h j hlt]
  simp [List.getElem?_eq_getElem hlt] at hj
  rw [hj]

set_option maxHeartbeats 800000 in
theorem errorf_any (F : Interp) (w : World) (hF : F.answers w.tape) (vb : Nat) (what j : ByteArray) (a : Option Addr) (n c : Nat) (r : List UInt8 × List UInt8)
    (h0 : w.cell? ⟨vb, 0, none⟩ = some (.iface 9 (.string what))) (h1 : w.cell? ⟨vb, 1, none⟩ = some (.iface 22 (.slice a n c))) (h2 : w.cell? ⟨vb, 2, none⟩ = some (.iface 9 (.string j)))
    (hop : (FmtStop.operand "fmt.errorf" true 113 false (.iface 22 (.slice a n c))).run Tryf.prog w = .ok r w) :
    Calls Tryf.prog 14 #[.string ⟨#[117, 110, 107, 110, 111, 119, 110, 32, 37, 115, 32, 37, 113, 59, 32, 105, 116, 32, 105, 115, 32, 111, 110, 101, 32, 111, 102, 32, 37, 115]⟩, .slice (some ⟨vb, 0, none⟩) 3 3] w fun e w' => ErrSaid w e w' := by
  have hF' := hF
  unfold Interp.answers at hF'
  have f1 := call17
  have f2 := guard
  have f3 := fmt0
  have f4 := fmt0r
  have f5 := op9_115w
  have f6 := ptr51
  have f7 := elem51
  go_enter Tryf.func14, Tryf.ntmps14
  go_wp2
  go_ret
  exact ⟨_, rfl, ((Below.refl _ _).alloc (Nat.le_refl _) _).drew⟩

def nm0 : List UInt8 := [111, 112, 116, 105, 111, 110]
def nm1 : List UInt8 := [114, 101, 115, 116, 114, 105, 99, 116, 101, 100]
def nm2 : List UInt8 := [114, 101, 115, 116, 114, 105, 99, 116, 101, 100, 45, 105, 105]

/-- The kinds' names in memory. -/
structure Names (w : World) (nb no : Nat) : Prop where
  c0 : w.cell? ⟨nb, no, none⟩ = some (.string ⟨nm0.toArray⟩)
  c1 : w.cell? ⟨nb, no + 1, none⟩ = some (.string ⟨nm1.toArray⟩)
  c2 : w.cell? ⟨nb, no + 2, none⟩ = some (.string ⟨nm2.toArray⟩)

theorem Names.below {w w' : World} {nb no : Nat} (h : Names w nb no) (hb : Below w.heap.size w w') : Names w' nb no := by
  have k : ∀ {p : Addr} {v : Value}, w.cell? p = some v → w'.cell? p = some v := fun {p v} hc => (hb.cell (World.block_lt_of_cell? w _ hc)).trans hc
  exact ⟨k h.c0, k h.c1, k h.c2⟩

theorem conv_any {w : World} {a : Option Addr} {c : Nat} {T : List UInt8} (h : BytesAt w a T) (he : a = none → T.length = 0) (hs : ∀ x, a = some x → x.spot = none) :
    (convert 22 9 (.slice a T.length c)).run Tryf.prog w = .ok (.string ⟨T.toArray⟩) w := by
  cases a with
  | none =>
    have h0 := he rfl
    have hT : T = [] := List.length_eq_zero_iff.1 h0
    subst hT
    exact Lib.run_convert_nil_bytes w 22 9 5 c Tryf.underlying22 Tryf.underlying5 Tryf.underlying9
  | some x =>
    obtain ⟨b, off, spot⟩ := x
    have := hs _ rfl
    simp only at this
    subst this
    refine run_convert_bytes_back w 22 9 5 ⟨b, off, none⟩ c T Tryf.underlying22 Tryf.underlying5 Tryf.underlying9 fun j hj => ?_
    obtain ⟨b', off', e, hc⟩ := h j hj
    simp only [Option.some.injEq, Addr.mk.injEq, and_true] at e
    obtain ⟨rfl, rfl⟩ := e
    have ea : ((⟨b, off, none⟩ : Addr).add j) = ⟨b, off + j, none⟩ := by
      simp only [Addr.add]
      by_cases e : j = 0 <;> simp [e]
    rw [ea]
    exact hc

set_option maxHeartbeats 800000 in
theorem parse_hit (w : World) (nb no nc kb : Nat) (k0 : Int) (a : Option Addr) (n c : Nat) (T : List UInt8) (j : Nat) (hN : Names w nb no) (hk : w.cell? ⟨kb, 0, none⟩ = some (.int .i64 k0)) (hkf : w.frozen? ⟨kb, 0, none⟩ = false)
    (hcv : (convert 22 9 (.slice a n c)).run Tryf.prog w = .ok (.string ⟨T.toArray⟩) w) (hT : (T = nm0 ∧ j = 0) ∨ (T = nm1 ∧ j = 1) ∨ (T = nm2 ∧ j = 2)) :
    Calls Tryf.prog 12 #[.string ⟨#[107, 105, 110, 100]⟩, .slice (some ⟨nb, no, none⟩) 3 nc, .slice a n c, .pointer (some ⟨kb, 0, none⟩)] w fun e w' => e = .returned .nilIface ∧ w' = w.setCell ⟨kb, 0, none⟩ (.int .i64 j) := by
  have c0 := hN.c0
  have c1 := hN.c1
  have c2 := hN.c2
  clear hN
  rcases hT with ⟨rfl, rfl⟩ | ⟨rfl, rfl⟩ | ⟨rfl, rfl⟩
  all_goals
    unfold nm0 nm1 nm2 at *
    go_enter Tryf.func12, Tryf.ntmps12
    go_wp2
    go_rounds 4
    go_ret
    exact ⟨rfl, rfl⟩

theorem bool_no {l m : List UInt8} (h : ¬ m = l) : (l == m) = false := by
  simp only [beq_eq_false_iff_ne, ne_eq]
  exact fun e => h e.symm

def StrSaid (e : Ending) : Prop := ∃ j, e = .returned (.string j)

theorem join3 (w : World) (nb no nc : Nat) (h : Names w nb no) (hnc : 3 ≤ nc) :
    Calls Tryf.prog 15 #[.slice (some ⟨nb, no, none⟩) 3 nc, .string ⟨#[44, 32]⟩] w fun e w' => StrSaid e ∧ Below w.heap.size w w' := by
  refine (Tryf.strings_Join nb no nc [⟨nm0.toArray⟩, ⟨nm1.toArray⟩, ⟨nm2.toArray⟩] ⟨#[44, 32]⟩ w ?_ (World.block_lt_of_cell? w _ h.c0) (by simp) (by simpa using hnc) (by decide)).mono ?_
  · intro j x hj
    match j, hj with
    | 0, hj => simp at hj; subst hj; exact h.c0
    | 1, hj => simp at hj; subst hj; exact h.c1
    | 2, hj => simp at hj; subst hj; exact h.c2
  · rintro e w' ⟨rfl, hb⟩
    exact ⟨⟨_, rfl⟩, hb⟩

theorem op_any {w : World} {a : Option Addr} {c : Nat} {T : List UInt8} (h : BytesAt w a T) (he : a = none → T.length = 0 ∧ c = 0) (hs : ∀ x, a = some x → x.spot = none) :
    ∃ r, (FmtStop.operand "fmt.errorf" true 113 false (.iface 22 (.slice a T.length c))).run Tryf.prog w = .ok r w := by
  cases a with
  | none =>
    obtain ⟨h1, h2⟩ := he rfl
    rw [h1, h2]
    exact ⟨_, opNil_113 _ w⟩
  | some x =>
    obtain ⟨b, off, spot⟩ := x
    have := hs _ rfl
    simp only at this
    subst this
    have hcell : ∀ i (hi : i < T.length), w.cell? ⟨b, off + i, none⟩ = some (.int .u8 (T[i].toNat : Int)) := by
      intro i hi
      obtain ⟨b', off', e, hc⟩ := h i hi
      simp only [Option.some.injEq, Addr.mk.injEq, and_true] at e
      obtain ⟨rfl, rfl⟩ := e
      exact hc
    have := opBytes_113 "fmt.errorf" ⟨b, off, none⟩ c (T.map fun x => (x.toNat : Int)) w (bytes_ints hcell)
    rw [List.length_map] at this
    exact ⟨_, this⟩

set_option maxHeartbeats 800000 in
theorem parse_miss (F : Interp) (w : World) (hF : F.answers w.tape) (nb no nc kb : Nat) (a : Option Addr) (c : Nat) (T : List UInt8) (hN : Names w nb no) (hnc : 3 ≤ nc)
    (hcv : (convert 22 9 (.slice a T.length c)).run Tryf.prog w = .ok (.string ⟨T.toArray⟩) w) (h0 : ¬ T = nm0) (h1 : ¬ T = nm1) (h2 : ¬ T = nm2) (hB : BytesAt w a T) (he : a = none → T.length = 0 ∧ c = 0) (hs : ∀ x, a = some x → x.spot = none) :
    Calls Tryf.prog 12 #[.string ⟨#[107, 105, 110, 100]⟩, .slice (some ⟨nb, no, none⟩) 3 nc, .slice a T.length c, .pointer (some ⟨kb, 0, none⟩)] w fun e w' => ErrSaid w e w' := by
  have c0 := hN.c0
  have c1 := hN.c1
  have c2 := hN.c2
  have HNm := Hid.mk hN
  have HB := Hid.mk hB
  have HE := Hid.mk he
  have HS := Hid.mk hs
  have b0 := bool_no h0
  have b1 := bool_no h1
  have b2 := bool_no h2
  have b0' := (bool_no (l := T) (m := nm0) (fun e => h0 e.symm))
  have b1' := (bool_no (l := T) (m := nm1) (fun e => h1 e.symm))
  have b2' := (bool_no (l := T) (m := nm2) (fun e => h2 e.symm))
  clear hN hB he hs h0 h1 h2
  unfold nm0 nm1 nm2 at *
  generalize hn : T.length = n at *
  have HN := Hid.mk hn
  clear hn
  go_enter Tryf.func12, Tryf.ntmps12
  go_wp2_with fail
  refine wp_loop_rounds 4 ?_
  rw [rounds_succ]
  go_wp2_with fail
  rw [rounds_succ]
  go_wp2_with fail
  rw [rounds_succ]
  go_wp2_with fail
  rw [rounds_succ]
  go_wp2_with fail
  refine (join3 w nb no nc HNm.out hnc).mono ?_
  rintro e w1 ⟨⟨j, rfl⟩, hB1⟩
  have hB2 : BytesAt (w1.alloc (.cells #[.iface 9 (.string ⟨#[107, 105, 110, 100]⟩), .iface 22 (.slice a n c), .iface 9 (.string j)] 20)) a T := (HB.out.below hB1).below ((Below.refl _ _).alloc (Nat.le_refl _) _)
  obtain ⟨r, hop⟩ := op_any (c := c) hB2 (by rw [HN.out]; exact HE.out) HS.out
  rw [HN.out] at hop
  have HO := Hid.mk (errorf_any F (w1.alloc (.cells #[.iface 9 (.string ⟨#[107, 105, 110, 100]⟩), .iface 22 (.slice a n c), .iface 9 (.string j)] 20)) (by show F.answers w1.tape; rw [hB1.tape]; exact hF) w1.heap.size ⟨#[107, 105, 110, 100]⟩ j a n c r (by simp) (by simp) (by simp) hop)
  clear hB2 hop
  go_wp2_with fail
  refine HO.out.mono ?_
  rintro e w2 ⟨x, rfl, hB3⟩
  go_wp2_with fail
  go_ret
  exact ⟨x, rfl, (hB1.alloc hB1.size _).trans (hB3.mono (by simp; exact Nat.le_trans hB1.size (Nat.le_succ _)))⟩

/-- The package-level variable 'kindNames' and what it leads to. -/
structure Table (w : World) (nb no nc : Nat) : Prop where
  var : w.cell? ⟨0, 0, none⟩ = some (.slice (some ⟨nb, no, none⟩) 3 nc)
  names : Names w nb no
  cap : 3 ≤ nc

theorem Table.below {w w' : World} {nb no nc : Nat} (h : Table w nb no nc) (hb : Below w.heap.size w w') : Table w' nb no nc :=
  ⟨(hb.cell (p := ⟨0, 0, none⟩) (World.block_lt_of_cell? w _ h.var)).trans h.var, h.names.below hb, h.cap⟩

set_option maxHeartbeats 400000 in
theorem unmarshal_hit (w : World) (nb no nc kb : Nat) (k0 : Int) (a : Option Addr) (c : Nat) (T : List UInt8) (j : Nat) (hT : Table w nb no nc) (hk : w.cell? ⟨kb, 0, none⟩ = some (.int .i64 k0)) (hkf : w.frozen? ⟨kb, 0, none⟩ = false)
    (hB : BytesAt w a T) (he : a = none → T.length = 0 ∧ c = 0) (hs : ∀ x, a = some x → x.spot = none) (hj : (T = nm0 ∧ j = 0) ∨ (T = nm1 ∧ j = 1) ∨ (T = nm2 ∧ j = 2)) :
    Calls Tryf.prog 8 #[.pointer (some ⟨kb, 0, none⟩), .slice a T.length c] w fun e w' => e = .returned .nilIface ∧ w' = w.setCell ⟨kb, 0, none⟩ (.int .i64 j) := by
  have hv := hT.var
  have HP := Hid.mk (parse_hit w nb no nc kb k0 a T.length c T j hT.names hk hkf (conv_any hB (fun h => (he h).1) hs) hj)
  clear hT hB he hs hj hk hkf
  go_enter Tryf.func8, Tryf.ntmps8
  go_wp2_with fail
  refine HP.out.mono ?_
  rintro e w1 ⟨rfl, rfl⟩
  go_wp2_with fail
  go_ret
  exact ⟨rfl, rfl⟩

set_option maxHeartbeats 400000 in
theorem unmarshal_miss (F : Interp) (w : World) (hF : F.answers w.tape) (nb no nc kb : Nat) (a : Option Addr) (c : Nat) (T : List UInt8) (hT : Table w nb no nc)
    (hB : BytesAt w a T) (he : a = none → T.length = 0 ∧ c = 0) (hs : ∀ x, a = some x → x.spot = none) (h0 : ¬ T = nm0) (h1 : ¬ T = nm1) (h2 : ¬ T = nm2) :
    Calls Tryf.prog 8 #[.pointer (some ⟨kb, 0, none⟩), .slice a T.length c] w fun e w' => ErrSaid w e w' := by
  have hv := hT.var
  have HP := Hid.mk (parse_miss F w hF nb no nc kb a c T hT.names hT.cap (conv_any hB (fun h => (he h).1) hs) h0 h1 h2 hB he hs)
  clear hT hB he hs h0 h1 h2
  go_enter Tryf.func8, Tryf.ntmps8
  go_wp2_with fail
  refine HP.out.mono ?_
  rintro e w1 ⟨x, rfl, hB1⟩
  go_wp2_with fail
  go_ret
  exact ⟨x, rfl, hB1⟩

/-- The number of the kind that a text names. -/
def kind (T : List UInt8) : Option Nat := if T = nm0 then some 0 else if T = nm1 then some 1 else if T = nm2 then some 2 else none

theorem kind_cases (T : List UInt8) : (∃ j, kind T = some j ∧ j ≤ 2 ∧ ((T = nm0 ∧ j = 0) ∨ (T = nm1 ∧ j = 1) ∨ (T = nm2 ∧ j = 2))) ∨ (kind T = none ∧ ¬ T = nm0 ∧ ¬ T = nm1 ∧ ¬ T = nm2) := by
  unfold kind
  by_cases h0 : T = nm0
  · exact .inl ⟨0, by rw [if_pos h0], by omega, .inl ⟨h0, rfl⟩⟩
  · by_cases h1 : T = nm1
    · exact .inl ⟨1, by rw [if_neg h0, if_pos h1], by omega, .inr (.inl ⟨h1, rfl⟩)⟩
    · by_cases h2 : T = nm2
      · exact .inl ⟨2, by rw [if_neg h0, if_neg h1, if_pos h2], by omega, .inr (.inr ⟨h2, rfl⟩)⟩
      · exact .inr ⟨by rw [if_neg h0, if_neg h1, if_neg h2], h0, h1, h2⟩

def ModelSaid (w : World) (k : Int) (b : Bool) (e : Ending) (w' : World) : Prop := e = .returned (.tuple #[.int .i64 k, .bool b]) ∧ Below w.heap.size w w'

set_option maxHeartbeats 800000 in
/-- 'zzKindModel' -/
theorem model_any (w : World) (a : Option Addr) (c : Nat) (T : List UInt8) (h0 : BytesAt w a T) (hm : T.length ≤ 1048576) :
    Calls Tryf.prog 7 #[.slice a T.length c] w fun e w' => ModelSaid w (((kind T).getD 0 : Nat) : Int) (kind T).isSome e w' := by
  have H0 := Hid.mk h0
  clear h0
  go_enter Tryf.func7, Tryf.ntmps7
  go_wp2_with fail
  refine (same_any _ a c T ⟨#[111, 112, 116, 105, 111, 110]⟩ H0.out hm (by decide)).mono ?_
  rintro e w1 ⟨rfl, hB1⟩
  by_cases e0 : T = nm0
  · have hk : kind T = some 0 := by unfold kind; rw [if_pos e0]
    have HK := Hid.mk hk
    rw [show same T (⟨#[111, 112, 116, 105, 111, 110]⟩ : ByteArray).data.toList = true from same_yes e0]
    clear e0 hk
    go_wp2_with fail
    go_ret2
    exact ⟨by rw [HK.out]; rfl, hB1⟩
  · rw [show same T (⟨#[111, 112, 116, 105, 111, 110]⟩ : ByteArray).data.toList = false from same_no e0]
    go_wp2_with fail
    refine (same_any _ a c T ⟨#[114, 101, 115, 116, 114, 105, 99, 116, 101, 100]⟩ (H0.out.below hB1) hm (by decide)).mono ?_
    rintro e w2 ⟨rfl, hB2⟩
    have hB12 := hB1.trans (hB2.mono hB1.size)
    by_cases e1 : T = nm1
    · have hk : kind T = some 1 := by unfold kind; rw [if_neg e0, if_pos e1]
      have HK := Hid.mk hk
      rw [show same T (⟨#[114, 101, 115, 116, 114, 105, 99, 116, 101, 100]⟩ : ByteArray).data.toList = true from same_yes e1]
      clear e0 e1 hk
      go_wp2_with fail
      go_ret2
      exact ⟨by rw [HK.out]; rfl, hB12⟩
    · rw [show same T (⟨#[114, 101, 115, 116, 114, 105, 99, 116, 101, 100]⟩ : ByteArray).data.toList = false from same_no e1]
      go_wp2_with fail
      refine (same_any _ a c T ⟨#[114, 101, 115, 116, 114, 105, 99, 116, 101, 100, 45, 105, 105]⟩ ((H0.out.below hB1).below hB2) hm (by decide)).mono ?_
      rintro e w3 ⟨rfl, hB3⟩
      have hB13 := hB12.trans (hB3.mono hB12.size)
      by_cases e2 : T = nm2
      · have hk : kind T = some 2 := by unfold kind; rw [if_neg e0, if_neg e1, if_pos e2]
        have HK := Hid.mk hk
        rw [show same T (⟨#[114, 101, 115, 116, 114, 105, 99, 116, 101, 100, 45, 105, 105]⟩ : ByteArray).data.toList = true from same_yes e2]
        clear e0 e1 e2 hk
        go_wp2_with fail
        go_ret2
        exact ⟨by rw [HK.out]; rfl, hB13⟩
      · have hk : kind T = none := by unfold kind; rw [if_neg e0, if_neg e1, if_neg e2]
        have HK := Hid.mk hk
        rw [show same T (⟨#[114, 101, 115, 116, 114, 105, 99, 116, 101, 100, 45, 105, 105]⟩ : ByteArray).data.toList = false from same_no e2]
        clear e0 e1 e2 hk
        go_wp2_with fail
        go_ret2
        exact ⟨by rw [HK.out]; rfl, hB13⟩

end Go.Proofs.Qxb6603553aFmt
