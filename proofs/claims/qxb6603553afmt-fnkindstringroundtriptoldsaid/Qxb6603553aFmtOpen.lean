import Derived.Test.Qxb6603553aFmtLaw4
import Derived.Test.Qxb6603553aFmtRows
import Derived.Test.Qxb6603553aFmtTie
import Derived.Test.Qxb6603553aFmtCards
import Derived.ProofKit
import Derived.OpenShut
import Derived.ShutString
import Derived.ChangeOld
import Derived.ChangeVars
import Derived.SliceStrings
import Derived.WalkSmall
import Derived.LaidLaws
import Derived.Stop.JoinedAt
import Derived.Stop.JoinedTold
import Derived.Stop.Texts
import Derived.Stop.LaidErr
import Derived.Deep.DeepWitnessRef
namespace Go.Proofs.Qxb6603553aFmt
open Go.ChangeShapes Go.WideShapes Go.ChangeAt Go.RowKit Go.Kit
open Go.Extern.Stop Go.Stop Go.Extern

theorem own : ownKnob Tryf.prog.godebug = none := by kernel_rfl
theorem laidOut : laidOutB Tryf.pinned.checked.prog = true := by kernel_rfl
theorem stops : Tryf.pinned.checked.prog.stops = ["fmt.Sprintf", "fmt.errorf"] := by kernel_rfl
theorem stopKnobs : Tryf.pinned.checked.prog.stopKnobs = [] := by kernel_rfl
theorem quiet (os : Os) : Stop.quiet Tryf.pinned.checked.prog os := by
  intro k hk
  rw [stopKnobs] at hk
  cases hk
/-- The listed variable's name, off the given row. -/
def kindNames : String := Rows.fnKindUnmarshalTextExactSpec.vars.headD ""
theorem gN : Tryf.prog.globalNamed kindNames = some 0 := by kernel_rfl
theorem gNType : (Tryf.prog.globals[0]?).map (·.type) = some 36 := by kernel_rfl

theorem bytes_of {w : World} {a : Addr} {T : List UInt8} (h : ∀ i (hi : i < T.length), w.cell? (a.add i) = some (.int .u8 (T[i].toNat : Int))) : BytesAt w (some a) T := by
  intro i hi
  have hc := h i hi
  have h0 := h 0 (by omega)
  obtain ⟨b, off, spot⟩ := a
  have hspot : spot = none := by simpa [Addr.add] using World.cell?_spot h0
  subst hspot
  refine ⟨b, off, rfl, ?_⟩
  by_cases h0 : i = 0
  · subst h0; simpa [Addr.add] using hc
  · simpa [Addr.add, h0] using hc

theorem byte_back {z : Int} (h : 0 ≤ z ∧ z ≤ 255) : ((z.toNat.toUInt8).toNat : Int) = z := by
  have : z.toNat < 256 := by omega
  simp [Nat.mod_eq_of_lt this]
  omega

section
variable {H : Type} {enc : TypeId × Value → H} {W : World}

theorem open_bytes {a : Option Addr} {len cap : Nat} {x : DataW H × List MemPlace} {fuel : Nat} (hf : DataW.trod enc Tryf.prog W 0 (fun _ => true) true fuel 22 (Value.slice a len cap).cells.toList = some x) :
    ∃ T : List UInt8, T.length = len ∧ BytesAt W a T ∧ (a = none → T.length = 0) := by
  rcases open_ints Tryf.underlying22 Tryf.underlying5 (by kernel_rfl) hf with ⟨hcs, _⟩ | ⟨x, l, c, zs, hcs, _, hl, hm, hz, _, hcell, hwz⟩
  · simp [Value.cells] at hcs
    obtain ⟨rfl, rfl, rfl⟩ := hcs
    exact ⟨[], rfl, fun i hi => absurd hi (by simp), fun _ => rfl⟩
  · simp [Value.cells] at hcs
    obtain ⟨rfl, rfl, rfl⟩ := hcs
    have hlen : ((zs.take len).map (fun z => z.toNat.toUInt8)).length = len := by simp at hz ⊢; omega
    refine ⟨(zs.take len).map (fun z => z.toNat.toUInt8), hlen, bytes_of fun i hi => ?_, fun h => by cases h⟩
    have hi' : i < zs.length := by simp at hi; omega
    rw [hcell i hi']
    have hmem : zs[i] ∈ zs := List.getElem_mem hi'
    have hb := bounds_u8 (hwz _ hmem)
    simp only [List.getElem_map, List.getElem_take, List.getD_eq_getElem?_getD, List.getElem?_eq_getElem hi', Option.getD_some]
    rw [byte_back ⟨hb.1, by omega⟩]

theorem table_of_laid (h : laidMet Tryf.prog [(kindNames, Rows.laid_example_com_vestbook_vestbook_plan_kindNames)] W) : ∃ nb no nc, Table W nb no nc := by
  obtain ⟨ps, ⟨g, t, cs, fuel, p, q, hg, ht, hvar, hd, _, _⟩, _⟩ := h
  obtain rfl := Option.some.inj (gN.symm.trans hg)
  obtain rfl := Option.some.inj (gNType.symm.trans ht)
  obtain ⟨l⟩ := cs
  rcases open_strings Tryf.underlying36 Tryf.underlying9 (by kernel_rfl) hd with ⟨_, hx⟩ | ⟨x, n, c, ss, hcs, _, hl, hm, hz, hx, hcell, hws⟩
  · simp [Rows.laid_example_com_vestbook_vestbook_plan_kindNames] at hx
  · simp only at hcs
    subst hcs
    have h0 : W.cell? ⟨0, 0, none⟩ = some (.slice (some x) n c) := by simpa using World.var?_cell hg hvar 0
    simp only [Rows.laid_example_com_vestbook_vestbook_plan_kindNames, Prod.mk.injEq, DataW.slice.injEq] at hx
    obtain ⟨⟨hx1, hx2⟩, _⟩ := hx
    obtain ⟨s0, s1, s2, hss⟩ : ∃ s0 s1 s2, ss.take n = [s0, s1, s2] := by
      match hq : ss.take n, hx1 with
      | [a, b, c], _ => exact ⟨a, b, c, rfl⟩
      | [], h => simp [strs] at h
      | [a], h => simp [strs] at h
      | [a, b], h => simp [strs] at h
      | a :: b :: c :: d :: r, h => simp [strs] at h
    have hdrop : ss.drop n = [] := by
      match hq : ss.drop n, hx2 with
      | [], _ => rfl
      | a :: r, h => simp [strs] at h
    have hs : ss = [s0, s1, s2] := by rw [← List.take_append_drop n ss, hss, hdrop]; rfl
    rw [hss] at hx1
    subst hs
    simp [strs] at hx1
    obtain ⟨e0, e1, e2⟩ := hx1
    have hn : n = 3 := by
      have h1 := congrArg List.length hss
      simp only [if_true, List.length_cons, List.length_nil, List.length_take] at hz h1
      omega
    subst hn
    obtain ⟨b, off, spot⟩ := x
    have k0 := hcell 0 (by simp)
    have k1 := hcell 1 (by simp)
    have k2 := hcell 2 (by simp)
    have hspot : spot = none := by simpa [Addr.add] using World.cell?_spot k0
    subst hspot
    simp [Addr.add] at k0 k1 k2
    have back : ∀ (s : ByteArray) (m : List UInt8), m = s.data.toList → s = ⟨m.toArray⟩ := fun s m e => by rw [e, Lib.mk_data]
    refine ⟨b, off, c, h0, ⟨?_, ?_, ?_⟩, hl⟩
    · rw [k0, back s0 _ e0]; rfl
    · rw [k1, back s1 _ e1]; rfl
    · rw [k2, back s2 _ e2]; rfl

/-- The variable reads behind the call as it read before. -/
theorem vars_carry {W' : World} {gs : List (DataW H)} {q : List MemPlace} (hV : DataW.TrodVars enc Tryf.prog W (fun _ => true) [kindNames] gs q) (bel : Below W.heap.size W W') :
    ∃ d q', gs = [d] ∧ DataW.TrodVars enc Tryf.prog W' (fun b => decide (b < W.heap.size)) [kindNames] [d] q' := by
  obtain ⟨g, t, cs, fuel, d, p, rfl, hg, ht, hvar, hd, rfl⟩ := trodVars_one hV
  obtain rfl := Option.some.inj (gN.symm.trans hg)
  obtain rfl := Option.some.inj (gNType.symm.trans ht)
  have hv : ∃ v, cs.toList = (Value.cells v).toList ∧ W.cell? ⟨0, 0, none⟩ = some v := by
    obtain ⟨l⟩ := cs
    rcases open_strings Tryf.underlying36 Tryf.underlying9 (by kernel_rfl) hd with ⟨hcs, _⟩ | ⟨x, n, c, ss, hcs, _⟩
    · simp only at hcs; subst hcs
      exact ⟨.slice none 0 0, rfl, by simpa using World.var?_cell hg hvar 0⟩
    · simp only at hcs; subst hcs
      exact ⟨.slice (some x) n c, rfl, by simpa using World.var?_cell hg hvar 0⟩
  obtain ⟨v, hcs, hc⟩ := hv
  have hlt0 : 0 < W.heap.size := World.block_lt_of_cell? W _ hc
  rw [hcs] at hd
  have lt : ∀ x ∈ p, x.block < W.heap.size := DataW.trod_lt fuel _ _ _ hd
  obtain ⟨fuel', hd'⟩ := Below.trod (v := v) laidOut (by kernel_rfl) (of_decide_eq_true (by kernel_rfl)) ⟨fuel, hd⟩ bel lt
  rw [← hcs] at hd'
  exact ⟨d, _, rfl, trodVars_mk1 hg ht (var?_below bel hg hlt0 hvar) hd'⟩
end

end Go.Proofs.Qxb6603553aFmt
