/-
  laws.FnMediatype holds: for every input it returns true and leaves what it was handed. The card (FnMediatypeCardSaid) ties the table of white space to the program's text.
-/
import Derived.Test.YthfogblmcmlkhaaDoorTie
import Derived.Test.YthfogblmcmlkhaaDoorCards
import Derived.Test.YthfogblmcmlkhaaDoorMtTop

import Derived.WalkKit
import Derived.ProofKit
import Derived.OpenShut
import Derived.ChangeOld
import Derived.Below
import Derived.SevenTiedAt
import Derived.LaidOnce
import Derived.LaidHandle
import Derived.LaidLaws
import Derived.Lib.LaidTab
import Derived.LaidMore
namespace Go.Proofs.YthfogblmcmlkhaaDoor
open Go.ChangeShapes Go.WideShapes Go.ChangeAt Go.RowKit
set_option linter.unusedVariables false

theorem own : ownKnob Tryd.prog.godebug = none := by kernel_rfl
theorem laidOut : laidOutB Tryd.prog = true := by kernel_rfl
theorem tabG : Tryd.prog.globalNamed "textsminified/pub/tdparse.whitespaceTable" = some 0 := by kernel_rfl
theorem tabT : (Tryd.prog.globals[0]?).map (·.type) = some 39 := by kernel_rfl
theorem tabCells : Tryd.prog.cellsOf 39 = 256 := by kernel_rfl
theorem boolCells : Tryd.prog.cellsOf 4 = 1 := by kernel_rfl

abbrev laid1 : List (String × DataW Unit) := [("textsminified/pub/tdparse.whitespaceTable", Rows.laid_textsminified_pub_tdparse_whitespaceTable)]
def tabBools : List Bool := (List.range 256).map fun (i : Nat) => ws (i : Int)
theorem tab_datum : (Rows.laid_textsminified_pub_tdparse_whitespaceTable : DataW Unit) = .agg (tabBools.map fun b => .lit (.bool b)) := by kernel_rfl

/-- What the row's condition gives the walk. -/
theorem tbl_of_laid {W : World} (h : laidMet Tryd.prog laid1 W) : Tbl W := by
  obtain ⟨ps, ⟨g', t', cs, fuel, p, q, hg', ht', hvar, hd, _, _⟩, _⟩ := h
  obtain rfl := Option.some.inj (tabG.symm.trans hg')
  obtain rfl := Option.some.inj (tabT.symm.trans ht')
  rw [tab_datum] at hd
  intro x hx
  have hcell := World.var?_cell tabG hvar x
  rw [hcell]
  cases fuel with
  | zero => simp [DataW.trod] at hd
  | succ fuel =>
    simp only [DataW.trod, Tryd.underlying39, boolCells, tabCells, Nat.mul_one] at hd
    split at hd
    · rename_i hl
      obtain ⟨xs, hm, hxx⟩ := Option.map_eq_some_iff.1 hd
      have hxs : xs.map (·.1) = tabBools.map fun b => (DataW.lit (.bool b) : DataW Unit) := by
        have := congrArg Prod.fst hxx
        simpa using this
      obtain ⟨b, hb, hf⟩ := Lib.mapM_at hm x x (by simp [hx])
      obtain ⟨z, hc, hz⟩ : ∃ z, (cs.toList.drop x).take 1 = [.bool z] ∧ b.1 = .lit (.bool z) := by
        cases fuel with
        | zero => simp [DataW.trod] at hf
        | succ fuel =>
          generalize (cs.toList.drop x).take 1 = l at hf ⊢
          match l with
          | [] => simp [DataW.trod, Tryd.underlying4] at hf
          | v :: r =>
            cases r <;> cases v <;> simp [DataW.trod, Tryd.underlying4] at hf ⊢
            rw [← hf]
      have h1 : cs[x]? = some (.bool z) := by
        have := congrArg (·[0]?) hc
        simpa [List.getElem?_take, List.getElem?_drop] using this
      have h2 : (xs.map (·.1))[x]? = some (DataW.lit (.bool z) : DataW Unit) := by simp [hb, hz]
      rw [hxs] at h2
      have h3 : tabBools[x]? = some (ws (x : Int)) := by simp [tabBools, hx]
      simp only [List.getElem?_map, h3, Option.map_some, Option.some.injEq, DataW.lit.injEq, Lit.bool.injEq] at h2
      rw [h1, h2]
    · cases hd

def IsRow (k : IntKind) (w : World) (a : Option Addr) (len cap : Nat) (zs : List Int) : Prop :=
  (a = none ∧ len = 0 ∧ cap = 0 ∧ zs = []) ∨
  ∃ x, a = some x ∧ (0 < cap → x.block < w.heap.size) ∧ len ≤ cap ∧ cap ≤ maxLen ∧ zs.length = cap ∧ (∀ i, i < zs.length → w.cell? (x.add i) = some (.int k (zs.getD i 0)))
theorem IsRow.ints {w : World} {a : Option Addr} {len cap : Nat} {zs : List Int} (h : IsRow .i64 w a len cap zs) : RInts w w.heap.size a len (zs.take len) ∧ len ≤ cap ∧ cap ≤ 9223372036854775807 := by
  rcases h with ⟨rfl, rfl, rfl, rfl⟩ | ⟨x, rfl, hx, h1, h2, h3, h4⟩
  · exact ⟨⟨rfl, by omega, fun h => by omega⟩, by omega, by omega⟩
  · unfold maxLen at h2
    refine ⟨⟨by rw [List.length_take]; omega, by omega, fun _ => ⟨x, rfl, hx (by omega), fun j hj => ?_⟩⟩, h1, h2⟩
    rw [h4 j (by omega), List.getD_eq_getElem?_getD, List.getD_eq_getElem?_getD, List.getElem?_take, if_pos hj]

theorem block_of_cell0 {w : World} {x : Addr} {v : Value} (h : w.cell? (x.add 0) = some v) : x.block < w.heap.size := by
  have e : (x.add 0) = x := by unfold Addr.add; simp
  rw [e] at h
  exact World.block_lt_of_cell? w x h
theorem tbl_size {w : World} (h : Tbl w) : 0 < w.heap.size := by
  have := World.block_lt_of_cell? w _ (h 0 (by omega))
  exact Nat.lt_of_le_of_lt (Nat.zero_le _) this

theorem door_met (os : Os) (args : Array Value) : laidMet Tryd.prog laid1 ((World.doorLaid Tryd.prog 400 os).forCall (fun _ _ => 0) ⟨#[], args, []⟩).memory :=
  laidMet_of_run' 8 (by kernel_rfl) (by kernel_rfl)

set_option maxRecDepth 100000 in
theorem lifted (hlaw : MediaLaw) (os : Os) (started : os.Started) (H : Type) (enc : TypeId × Value → H) :
    ReturnsInHanded {} Tryd.checked os 3 .any (fun w args => (Rows.fnMediatypeSpec.pre enc Tryd.prog Tryd.f3 [] false w args ∧ laidMet Tryd.prog laid1 w) ∧ sizedMet enc Tryd.prog Tryd.f3 (OpenSpec.ofChange Rows.fnMediatypeSpec) false w args)
      (Rows.fnMediatypeSpec.post enc Tryd.prog Tryd.f3 false true false false) := by
  refine returnsInHanded_of_change_and (C := Tryd.checked) (X := fun w _ => laidMet Tryd.prog laid1 w) (fun _ _ _ hh h => h.of_heap hh) own started (by kernel_rfl) Tryd.func3
    (ChangeSpec.witness_shaped (enc := enc) (C := Tryd.checked) (os := os) (X := fun w _ => laidMet Tryd.prog laid1 w) false (World.doorLaid Tryd.prog 400 os) #[.slice none 0 0, .slice none 0 0] 8 rfl (World.shaped_of_RefB (by kernel_rfl) (by kernel_rfl)) (by kernel_rfl) (by kernel_rfl) (by kernel_rfl) (door_met os _)) ?_
  intro W base args ds gs before hval0 hW _ _ hL _
  have hval : ∀ (j : Nat) t v, Tryd.f3.params[j]? = some t → args[j]? = some v → Value.okWide Tryd.prog W .any base t v := hval0
  have hW' := hW
  obtain ⟨p, q, hA0, hV, rfl, hfz, hnd⟩ := hW
  have hA : DataW.TrodAll enc Tryd.prog W 0 (fun _ => true) true Tryd.f3.params.toList args.toList ds p := hA0
  rw [Tryd.params3] at hA hval
  obtain ⟨v0, vs0, d0, ds0, p0, q0, hargs, rfl, rfl, h0, r0⟩ := trodAll_cons hA
  obtain ⟨v1, vs1, d1, ds1, p1, q1, rfl, rfl, rfl, h1, r1⟩ := trodAll_cons r0
  obtain ⟨rfl, rfl, rfl⟩ := trodAll_nil r1
  obtain rfl : args = #[v0, v1] := by cases args; simp_all
  obtain ⟨rfl, rfl⟩ := trodVars_none hV
  obtain ⟨a0, len0, cap0, rfl⟩ := okWide_slice Tryd.underlying22 (hval 0 22 v0 rfl rfl)
  have k0 := h0
  have lt0 : ∀ x ∈ p0, x.block < W.heap.size := by obtain ⟨m, hm⟩ := k0; exact DataW.trod_lt m _ _ _ hm
  obtain ⟨z0, w0⟩ : ∃ zs, IsRow .i64 W a0 len0 cap0 zs := by
    obtain ⟨fuel, hf⟩ := h0
    rcases open_ints Tryd.underlying22 Tryd.underlying3 (by kernel_rfl) hf with ⟨hcs, _⟩ | ⟨x, l, c, zs, hcs, _, hl, hm, hz, _, hcell, hwz⟩
    · simp [Value.cells] at hcs
      obtain ⟨rfl, rfl, rfl⟩ := hcs
      exact ⟨[], .inl ⟨rfl, rfl, rfl, rfl⟩⟩
    · simp [Value.cells] at hcs
      obtain ⟨rfl, rfl, rfl⟩ := hcs
      exact ⟨zs, .inr ⟨_, rfl, fun hp => block_of_cell0 (hcell 0 (by have : zs.length = cap0 := by simpa using hz
                                                                     omega)), hl, hm, by simpa using hz, hcell⟩⟩
  obtain ⟨a1, len1, cap1, rfl⟩ := okWide_slice Tryd.underlying22 (hval 1 22 v1 rfl rfl)
  have k1 := h1
  have lt1 : ∀ x ∈ p1, x.block < W.heap.size := by obtain ⟨m, hm⟩ := k1; exact DataW.trod_lt m _ _ _ hm
  obtain ⟨z1, w1⟩ : ∃ zs, IsRow .i64 W a1 len1 cap1 zs := by
    obtain ⟨fuel, hf⟩ := h1
    rcases open_ints Tryd.underlying22 Tryd.underlying3 (by kernel_rfl) hf with ⟨hcs, _⟩ | ⟨x, l, c, zs, hcs, _, hl, hm, hz, _, hcell, hwz⟩
    · simp [Value.cells] at hcs
      obtain ⟨rfl, rfl, rfl⟩ := hcs
      exact ⟨[], .inl ⟨rfl, rfl, rfl, rfl⟩⟩
    · simp [Value.cells] at hcs
      obtain ⟨rfl, rfl, rfl⟩ := hcs
      exact ⟨zs, .inr ⟨_, rfl, fun hp => block_of_cell0 (hcell 0 (by have : zs.length = cap1 := by simpa using hz
                                                                     omega)), hl, hm, by simpa using hz, hcell⟩⟩
  clear hA0 hval0
  obtain ⟨q0', c0', m0'⟩ := w0.ints
  obtain ⟨q1', c1', m1'⟩ := w1.ints
  refine (FnMediatype_any a0 a1 len0 cap0 len1 cap1 _ _ W q0' q1' c0' c1' m0' m1' (tbl_of_laid hL) (tbl_size (tbl_of_laid hL)) hlaw).mono fun e W' ⟨he, bel⟩ => ?_
  subst he
  exact ⟨_, rfl, _, _, _, [], _, [], hW', trodAll_mk1 (shut_bool Tryd.underlying4 _), (trodAll_cons_mk (Below.trod laidOut (by kernel_rfl) (of_decide_eq_true (by kernel_rfl)) k0 bel lt0) (trodAll_cons_mk (Below.trod laidOut (by kernel_rfl) (of_decide_eq_true (by kernel_rfl)) k1 bel lt1) trodAll_mk0)), rfl, bel.frame _, fun h => by cases h⟩

theorem row_holds (hlaw : MediaLaw) : Rows.FnMediatypeSaid :=
  OpenClaim.holds_of_wide 3 Tryd.f3 rfl rfl rfl rfl rfl rfl rfl ⟨rfl, rfl, rfl, rfl, rfl⟩ rfl rfl rfl rfl rfl (by kernel_rfl) Tryd.func3 (by kernel_rfl)
    (of_decide_eq_true (by kernel_rfl)) (by unfold Func.isWrapper; first | (rw [if_pos (by decide +kernel)]; kernel_rfl) | (rw [if_neg (by decide +kernel)]; exact ⟨rfl, rfl⟩))
    (fun os started H enc _ => lifted hlaw os started H enc)

end Go.Proofs.YthfogblmcmlkhaaDoor
